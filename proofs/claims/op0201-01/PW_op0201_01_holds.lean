import PyProof.Rows.All
import Wide.All
import OpenK.AllK
import Wide.FinOn
import PySem.Challenge.RW_op0201_01
set_option Elab.async false
set_option compiler.extract_closed false
section
open PySem PySem.W PyProof.Rows
set_option Elab.async false
set_option maxRecDepth 100000
namespace Mine

noncomputable def goT (st : SharedT → Thread → Option (SharedT × Thread)) (fin : Thread → Option Bool) (n : Nat) : SharedT → Thread → Option SharedT :=
  Nat.rec (motive := fun _ => SharedT → Thread → Option SharedT) (fun _ _ => none) (fun _ ih s t => match fin t with
    | some true => some s
    | some false => none
    | none => match st s t with
      | some (s', t') => ih s' t'
      | none => none) n

def fin1 (t : Thread) : Option Bool := match t.atExitBegin with
  | some [] => some true
  | some (_ :: _) => some false
  | none => none
def fin2 (ok : Thread → Bool) (t : Thread) : Option Bool := match through t with
  | true => some true
  | false => match ok t with
    | false => some false
    | true => none

theorem goT_imp {tb : String → Option Builtin} {p : Program} {w : World} : ∀ (n : Nat) {s s' : SharedT} {t : Thread},
    goT (stepT (denote tb) p w) fin1 n s t = some s' → importEnds tb p w n s.abs t = some s'.abs
  | 0, _, _, _, h => by cases h
  | n + 1, s, s', t, h => by
    unfold importEnds
    have h : (match fin1 t with
      | some true => some s
      | some false => none
      | none => match stepT (denote tb) p w s t with
        | some (s', t') => goT (stepT (denote tb) p w) fin1 n s' t'
        | none => none) = some s' := h
    unfold fin1 at h
    cases ht : t.atExitBegin with
    | some l => rw [ht] at h; cases l <;> cases h; rfl
    | none =>
      rw [ht] at h
      dsimp only at h ⊢
      cases hs : stepT (denote tb) p w s t with
      | none => rw [hs] at h; cases h
      | some r =>
        obtain ⟨s₂, t₂⟩ := r
        rw [hs] at h
        rw [stepT_spec hs]
        exact goT_imp n h

theorem goT_top {tb : String → Option Builtin} {p : Program} {w : World} {n₀ : Nat} {ann : Option Value} : ∀ (n : Nat) {s s' : SharedT} {t : Thread},
    goT (stepT (denote tb) p w) (fin2 (stepOk n₀ ann)) n s t = some s' → topRun tb p w n₀ ann n s.abs t = some s'.abs
  | 0, _, _, _, h => by cases h
  | n + 1, s, s', t, h => by
    unfold topRun
    have h : (match fin2 (stepOk n₀ ann) t with
      | some true => some s
      | some false => none
      | none => match stepT (denote tb) p w s t with
        | some (s', t') => goT (stepT (denote tb) p w) (fin2 (stepOk n₀ ann)) n s' t'
        | none => none) = some s' := h
    unfold fin2 at h
    cases ht : through t with
    | true => rw [ht] at h; cases h; rfl
    | false =>
      rw [ht] at h
      cases hk : stepOk n₀ ann t with
      | false => rw [hk] at h; cases h
      | true =>
        rw [hk] at h
        dsimp only at h ⊢
        cases hs : stepT (denote tb) p w s t with
        | none => rw [hs] at h; cases h
        | some r =>
          obtain ⟨s₂, t₂⟩ := r
          rw [hs] at h
          rw [stepT_spec hs]
          exact goT_top n h

def ofL : List Obj → BT → Nat → Option BT
  | [], T, _ => some T
  | o :: r, T, n => match ((T.ins n o).get n).isSome with
    | true => ofL r (T.ins n o) (n + 1)
    | false => none
theorem ofL_abs {life : Life} : ∀ (l : List Obj) (T : BT) (n : Nat) (T' : BT), ofL l T n = some T' → absHeap T' (n + l.length) life = l.foldl Heap.push (absHeap T n life)
  | [], T, n, T', h => by cases h; rfl
  | o :: r, T, n, T', h => by
    unfold ofL at h
    cases hg : ((T.ins n o).get n).isSome with
    | false => rw [hg] at h; cases h
    | true =>
      rw [hg] at h
      have q := ofL_abs (life := life) r (T.ins n o) (n + 1) T' h
      rw [List.length_cons, List.foldl_cons, ← absHeap_ins hg, ← q, Nat.add_assoc, Nat.add_comm 1]
theorem foldl_push (life : Life) : ∀ (l : List Obj) (a : Array Obj), l.foldl Heap.push ⟨a, life⟩ = ⟨a ++ l.toArray, life⟩
  | [], a => by simp
  | o :: r, a => by
    rw [List.foldl_cons]
    show r.foldl Heap.push ⟨a.push o, life⟩ = _
    rw [foldl_push life r]
    simp
def toT (s : Shared) : Option SharedT := match ofL s.heap.objs.toList .nil 0 with
  | some T => some ⟨T, s.heap.objs.size, s.heap.life, s.gens, s.drawn, s.toks, s.os⟩
  | none => none
theorem toT_abs {s : Shared} {b : SharedT} (h : toT s = some b) : b.abs = s := by
  unfold toT at h
  cases hq : ofL s.heap.objs.toList .nil 0 with
  | none => rw [hq] at h; cases h
  | some T =>
    rw [hq] at h
    cases h
    obtain ⟨⟨objs, life⟩, gens, drawn, toks, os⟩ := s
    have q := ofL_abs (life := life) _ _ _ _ hq
    have z : absHeap .nil 0 life = ⟨#[], life⟩ := rfl
    rw [z, foldl_push] at q
    show (⟨absHeap T objs.size life, gens, drawn, toks, os⟩ : Shared) = _
    have e : 0 + objs.toList.length = objs.size := by simp
    have q : absHeap T (0 + objs.toList.length) life = _ := q
    rw [e] at q
    rw [q]
    simp

noncomputable def openT (den : Code → Sem Fin) (stp : (Code → Sem Fin) → Program → World → SharedT → Thread → Option (SharedT × Thread)) (ok : Nat → Option Value → Thread → Bool) (f1 : Thread → Option Bool)
    (p : Program) (w : World) (N M : Nat) : Option SharedT :=
  (goT (stp den (opening p) w) f1 M ⟨.nil, 0, {}, #[], {}, 1, (start (opening p)).1.os⟩ (start (opening p)).2).bind fun a =>
  (fenceModules? p a.abs).bind fun s₀ => match s₀.heap.isNs mainGlobals && s₀.gens.size == 0 with
    | false => none
    | true => (toT s₀).bind fun b => (goT (stp den p w) (fin2 (ok s₀.heap.objs.size (s₀.heap.nsMap mainGlobals "__annotations__"))) N b (topStub p)).bind fun c =>
      match staticsOk (importedModules p.main.body) s₀.heap c.abs.heap && namesBound p c.abs.heap && gensDone c.abs && laidKept s₀.heap c.abs.heap with
      | true => some c
      | false => none

theorem openT_spec {p : Program} {w : World} {N M : Nat} {c : SharedT} (le : M ≤ N) (h : openT (denote treeTable) stepT stepOk fin1 p w N M = some c) : openEnds treeTable p w N = some c.abs := by
  unfold openT at h
  obtain ⟨a, h1, h⟩ := Option.bind_eq_some_iff.mp h
  obtain ⟨s₀, h2, h⟩ := Option.bind_eq_some_iff.mp h
  have i := importEnds_mono (N - M) _ _ _ _ (goT_imp _ h1)
  rw [show M + (N - M) = N by omega] at i
  cases hg : (s₀.heap.isNs mainGlobals && s₀.gens.size == 0) with
  | false => rw [hg] at h; cases h
  | true =>
    rw [hg] at h
    obtain ⟨b, h3, h⟩ := Option.bind_eq_some_iff.mp h
    obtain ⟨c', h4, h⟩ := Option.bind_eq_some_iff.mp h
    cases hs : (staticsOk (importedModules p.main.body) s₀.heap c'.abs.heap && namesBound p c'.abs.heap && gensDone c'.abs && laidKept s₀.heap c'.abs.heap) with
    | false => rw [hs] at h; cases h
    | true =>
      rw [hs] at h
      cases h
      have t := goT_top _ h4
      rw [toT_abs h3] at t
      unfold openEnds fencedOpening
      have i : importEnds treeTable (opening p) w N (start (opening p)).1 (start (opening p)).2 = some a.abs := i
      rw [i]
      show ((fenceModules? p a.abs)).bind _ = _
      rw [h2]
      show topFrom treeTable p w N s₀ = _
      unfold topFrom
      rw [hg]
      dsimp only
      rw [t]
      show (match _ with | true => _ | false => _) = _
      rw [hs]

def getT (c : SharedT) (a : Nat) : Option Obj := match Nat.blt a c.n with
  | true => (c.tree.get a).bind alive
  | false => none
theorem getT_abs {c : SharedT} {a : Nat} {o : Obj} (h : getT c a = some o) : c.abs.heap.get? a = some o := by
  unfold getT at h
  cases hb : Nat.blt a c.n with
  | false => rw [hb] at h; cases h
  | true =>
    rw [hb] at h
    obtain ⟨x, h1, h2⟩ := Option.bind_eq_some_iff.mp h
    exact (abs_get (Nat.le_of_ble_eq_true hb) h1).trans h2
theorem getTs {c : SharedT} {K : Frag} : ∀ {as : List Addr} {os : List Obj}, as.map (getT c) = os.map some → as.map c.abs.heap.get? = os.map some
  | [], [], _ => rfl
  | a :: as, o :: os, h => by
    simp only [List.map_cons, List.cons.injEq] at h ⊢
    exact ⟨getT_abs h.1, getTs (K := K) h.2⟩
  | [], _ :: _, h => by cases h
  | _ :: _, [], h => by cases h

theorem left_of {p q : Program} {loose : List Str} {Xt : Shared → Bool} {K : Params → Frag} {as : List Addr} {N M : Nat} (le : M ≤ N)
    (h : ∀ w : World, (openT (denote treeTable) stepT stepOk fin1 p w N M).map (fun c => (openSeen q loose (importedModules p.main.body) Xt true c.abs, as.map (getT c))) = some (openGood q loose, (K w.params).map fun x => some x.2)) :
    LeftO p q loose Xt (fun s => as.map s.heap.get?) (fun w => (K w.params).map fun x => some x.2) N := fun w => by
  obtain ⟨c, h1, h2⟩ := Option.map_eq_some_iff.mp (h w)
  rw [openT_spec le h1]
  obtain ⟨e1, e2⟩ := Prod.mk.inj h2
  show some _ = _
  dsimp only
  rw [e1]
  have z : as.map c.abs.heap.get? = ((K w.params).map (·.2)).map some := getTs (K := K w.params) (by rw [e2, List.map_map]; rfl)
  rw [z, List.map_map]
  rfl
end Mine
end
section
open PySem PySem.W PyProof.Rows
set_option Elab.async false
set_option maxRecDepth 100000
set_option maxHeartbeats 0
set_option linter.unusedVariables false
namespace Mine
abbrev pw := PySem.Challenge.pw_op0201_01
abbrev rw1 := PySem.Challenge.rw_op0201_01
def stm : List Stmt → Nat → Stmt
  | [], _ => .Pass default
  | s :: _, 0 => s
  | _ :: r, n + 1 => stm r n
def argsOf : Stmt → Arguments
  | .FunctionDef _ a _ _ _ _ _ _ _ _ => a
  | _ => ⟨[], [], none, [], [], none, []⟩
def bodyOf : Stmt → List Stmt
  | .FunctionDef _ _ b _ _ _ _ _ _ _ => b
  | .ClassDef _ _ _ b _ _ _ _ _ _ _ => b
  | _ => []
def scopeOf : Stmt → Scope
  | .FunctionDef _ _ _ _ _ _ s _ _ _ => s
  | _ => default
def posOf : Stmt → Pos
  | .FunctionDef _ _ _ _ _ _ _ _ _ p => p
  | _ => default
abbrev litOf {α : Type} {a : α} (b : α) (_h : a = b) : α := a
noncomputable def f_index_p : Arguments := litOf (argsOf (stm pw.main.body 4)) (by conv => rhs; whnf)
noncomputable def f_index_b : List Stmt := litOf (bodyOf (stm pw.main.body 4)) (by conv => rhs; whnf)
noncomputable def f_index_s : Scope := litOf (scopeOf (stm pw.main.body 4)) (by conv => rhs; whnf)
noncomputable def fIOBase___new___p : Arguments := litOf (argsOf (stm (bodyOf (stm pw.main.body 6)) 1)) (by conv => rhs; whnf)
noncomputable def fIOBase___new___b : List Stmt := litOf (bodyOf (stm (bodyOf (stm pw.main.body 6)) 1)) (by conv => rhs; whnf)
noncomputable def fIOBase___new___s : Scope := litOf (scopeOf (stm (bodyOf (stm pw.main.body 6)) 1)) (by conv => rhs; whnf)
noncomputable def fStringIO___init___p : Arguments := litOf (argsOf (stm (bodyOf (stm pw.main.body 10)) 1)) (by conv => rhs; whnf)
noncomputable def fStringIO___init___b : List Stmt := litOf (bodyOf (stm (bodyOf (stm pw.main.body 10)) 1)) (by conv => rhs; whnf)
noncomputable def fStringIO___init___s : Scope := litOf (scopeOf (stm (bodyOf (stm pw.main.body 10)) 1)) (by conv => rhs; whnf)
noncomputable def fStringIO___translated_p : Arguments := litOf (argsOf (stm (bodyOf (stm pw.main.body 10)) 2)) (by conv => rhs; whnf)
noncomputable def fStringIO___translated_b : List Stmt := litOf (bodyOf (stm (bodyOf (stm pw.main.body 10)) 2)) (by conv => rhs; whnf)
noncomputable def fStringIO___translated_s : Scope := litOf (scopeOf (stm (bodyOf (stm pw.main.body 10)) 2)) (by conv => rhs; whnf)
noncomputable def fStringIO___check_p : Arguments := litOf (argsOf (stm (bodyOf (stm pw.main.body 10)) 3)) (by conv => rhs; whnf)
noncomputable def fStringIO___check_b : List Stmt := litOf (bodyOf (stm (bodyOf (stm pw.main.body 10)) 3)) (by conv => rhs; whnf)
noncomputable def fStringIO___check_s : Scope := litOf (scopeOf (stm (bodyOf (stm pw.main.body 10)) 3)) (by conv => rhs; whnf)
noncomputable def fStringIO_read_p : Arguments := litOf (argsOf (stm (bodyOf (stm pw.main.body 10)) 25)) (by conv => rhs; whnf)
noncomputable def fStringIO_read_b : List Stmt := litOf (bodyOf (stm (bodyOf (stm pw.main.body 10)) 25)) (by conv => rhs; whnf)
noncomputable def fStringIO_read_s : Scope := litOf (scopeOf (stm (bodyOf (stm pw.main.body 10)) 25)) (by conv => rhs; whnf)
noncomputable def fshlex___init___p : Arguments := litOf (argsOf (stm (bodyOf (stm pw.main.body 19)) 0)) (by conv => rhs; whnf)
noncomputable def fshlex___init___b : List Stmt := litOf (bodyOf (stm (bodyOf (stm pw.main.body 19)) 0)) (by conv => rhs; whnf)
noncomputable def fshlex___init___s : Scope := litOf (scopeOf (stm (bodyOf (stm pw.main.body 19)) 0)) (by conv => rhs; whnf)
noncomputable def fshlex_punctuation_chars_p : Arguments := litOf (argsOf (stm (bodyOf (stm pw.main.body 19)) 1)) (by conv => rhs; whnf)
noncomputable def fshlex_punctuation_chars_b : List Stmt := litOf (bodyOf (stm (bodyOf (stm pw.main.body 19)) 1)) (by conv => rhs; whnf)
noncomputable def fshlex_punctuation_chars_s : Scope := litOf (scopeOf (stm (bodyOf (stm pw.main.body 19)) 1)) (by conv => rhs; whnf)
noncomputable def fshlex_get_token_p : Arguments := litOf (argsOf (stm (bodyOf (stm pw.main.body 19)) 5)) (by conv => rhs; whnf)
noncomputable def fshlex_get_token_b : List Stmt := litOf (bodyOf (stm (bodyOf (stm pw.main.body 19)) 5)) (by conv => rhs; whnf)
noncomputable def fshlex_get_token_s : Scope := litOf (scopeOf (stm (bodyOf (stm pw.main.body 19)) 5)) (by conv => rhs; whnf)
noncomputable def fshlex_read_token_p : Arguments := litOf (argsOf (stm (bodyOf (stm pw.main.body 19)) 6)) (by conv => rhs; whnf)
noncomputable def fshlex_read_token_b : List Stmt := litOf (bodyOf (stm (bodyOf (stm pw.main.body 19)) 6)) (by conv => rhs; whnf)
noncomputable def fshlex_read_token_s : Scope := litOf (scopeOf (stm (bodyOf (stm pw.main.body 19)) 6)) (by conv => rhs; whnf)
noncomputable def fshlex___iter___p : Arguments := litOf (argsOf (stm (bodyOf (stm pw.main.body 19)) 9)) (by conv => rhs; whnf)
noncomputable def fshlex___iter___b : List Stmt := litOf (bodyOf (stm (bodyOf (stm pw.main.body 19)) 9)) (by conv => rhs; whnf)
noncomputable def fshlex___iter___s : Scope := litOf (scopeOf (stm (bodyOf (stm pw.main.body 19)) 9)) (by conv => rhs; whnf)
noncomputable def fshlex___next___p : Arguments := litOf (argsOf (stm (bodyOf (stm pw.main.body 19)) 10)) (by conv => rhs; whnf)
noncomputable def fshlex___next___b : List Stmt := litOf (bodyOf (stm (bodyOf (stm pw.main.body 19)) 10)) (by conv => rhs; whnf)
noncomputable def fshlex___next___s : Scope := litOf (scopeOf (stm (bodyOf (stm pw.main.body 19)) 10)) (by conv => rhs; whnf)
noncomputable def fsplit_p : Arguments := litOf (argsOf (stm pw.main.body 20)) (by conv => rhs; whnf)
noncomputable def fsplit_b : List Stmt := litOf (bodyOf (stm pw.main.body 20)) (by conv => rhs; whnf)
noncomputable def fsplit_s : Scope := litOf (scopeOf (stm pw.main.body 20)) (by conv => rhs; whnf)
noncomputable def freduce_p : Arguments := litOf (argsOf (stm pw.main.body 23)) (by conv => rhs; whnf)
noncomputable def freduce_b : List Stmt := litOf (bodyOf (stm pw.main.body 23)) (by conv => rhs; whnf)
noncomputable def freduce_s : Scope := litOf (scopeOf (stm pw.main.body 23)) (by conv => rhs; whnf)
noncomputable def f_byteswap_p : Arguments := litOf (argsOf (stm pw.main.body 25)) (by conv => rhs; whnf)
noncomputable def f_byteswap_b : List Stmt := litOf (bodyOf (stm pw.main.body 25)) (by conv => rhs; whnf)
noncomputable def f_byteswap_s : Scope := litOf (scopeOf (stm pw.main.body 25)) (by conv => rhs; whnf)
noncomputable def f_law_sign_p : Arguments := litOf (argsOf (stm pw.main.body 27)) (by conv => rhs; whnf)
noncomputable def f_law_sign_b : List Stmt := litOf (bodyOf (stm pw.main.body 27)) (by conv => rhs; whnf)
noncomputable def f_law_sign_s : Scope := litOf (scopeOf (stm pw.main.body 27)) (by conv => rhs; whnf)
noncomputable def f_law_mirror_p : Arguments := litOf (argsOf (stm pw.main.body 28)) (by conv => rhs; whnf)
noncomputable def f_law_mirror_b : List Stmt := litOf (bodyOf (stm pw.main.body 28)) (by conv => rhs; whnf)
noncomputable def f_law_mirror_s : Scope := litOf (scopeOf (stm pw.main.body 28)) (by conv => rhs; whnf)
noncomputable def f_law_open_p : Arguments := litOf (argsOf (stm pw.main.body 29)) (by conv => rhs; whnf)
noncomputable def f_law_open_b : List Stmt := litOf (bodyOf (stm pw.main.body 29)) (by conv => rhs; whnf)
noncomputable def f_law_open_s : Scope := litOf (scopeOf (stm pw.main.body 29)) (by conv => rhs; whnf)
noncomputable def f_law_words_p : Arguments := litOf (argsOf (stm pw.main.body 30)) (by conv => rhs; whnf)
noncomputable def f_law_words_b : List Stmt := litOf (bodyOf (stm pw.main.body 30)) (by conv => rhs; whnf)
noncomputable def f_law_words_s : Scope := litOf (scopeOf (stm pw.main.body 30)) (by conv => rhs; whnf)
noncomputable def f_law_read_p : Arguments := litOf (argsOf (stm pw.main.body 31)) (by conv => rhs; whnf)
noncomputable def f_law_read_b : List Stmt := litOf (bodyOf (stm pw.main.body 31)) (by conv => rhs; whnf)
noncomputable def f_law_read_s : Scope := litOf (scopeOf (stm pw.main.body 31)) (by conv => rhs; whnf)
noncomputable def f_law_holds_p : Arguments := litOf (argsOf (stm pw.main.body 32)) (by conv => rhs; whnf)
noncomputable def f_law_holds_b : List Stmt := litOf (bodyOf (stm pw.main.body 32)) (by conv => rhs; whnf)
noncomputable def f_law_holds_s : Scope := litOf (scopeOf (stm pw.main.body 32)) (by conv => rhs; whnf)
noncomputable def flaw_p : Arguments := litOf (argsOf (stm pw.main.body 33)) (by conv => rhs; whnf)
noncomputable def flaw_b : List Stmt := litOf (bodyOf (stm pw.main.body 33)) (by conv => rhs; whnf)
noncomputable def flaw_s : Scope := litOf (scopeOf (stm pw.main.body 33)) (by conv => rhs; whnf)
noncomputable def ob2 (P : Params) : Obj := ⟨.none, none, (.dict [⟨PyData.keyHash P ("\x69mport.loaded._collections" : Str), .str ("\x69mport.loaded._collections" : Str) 185, (.bool true)⟩,
    ⟨PyData.keyHash P ("class._frozen_importlib.BuiltinImporter" : Str), .str ("class._frozen_importlib.BuiltinImporter" : Str) 187, (.ref 15)⟩,
    ⟨PyData.keyHash P ("watched.\x69mport" : Str), .str ("watched.\x69mport" : Str) 208, (.ref 19)⟩,
    ⟨PyData.keyHash P ("class._frozen_importlib.ModuleSpec" : Str), .str ("class._frozen_importlib.ModuleSpec" : Str) 218, (.ref 23)⟩,
    ⟨PyData.keyHash P ("sys.modules.booked-epoch" : Str), .str ("sys.modules.booked-epoch" : Str) 247, (.int (3) 0)⟩,
    ⟨PyData.keyHash P ("sys.modules.landed._collections" : Str), .str ("sys.modules.landed._collections" : Str) 248, (.bool true)⟩,
    ⟨PyData.keyHash P ("\x69mport.later-laid._collections" : Str), .str ("\x69mport.later-laid._collections" : Str) 263, (.bool true)⟩,
    ⟨PyData.keyHash P ("watched.library" : Str), .str ("watched.library" : Str) 265, (.ref 28)⟩,
    ⟨PyData.keyHash P ("watched.library-objects" : Str), .str ("watched.library-objects" : Str) 0, (.str ("\x0d" : Str) 0)⟩,
    ⟨PyData.keyHash P ("watched.library-deep._collections" : Str), .str ("watched.library-deep._collections" : Str) 266, (.str ("\x04\x00\x00\x0c\x04\x00\x00\x0c\x04\x00\x00\x03\x04\x00\x00\x0c\x08\x04dict\x02" : Str) 0)⟩,
    ⟨PyData.keyHash P ("type.__subclasses__.OSError.0" : Str), .str ("type.__subclasses__.OSError.0" : Str) 322, (.int (63) 0)⟩,
    ⟨PyData.keyHash P ("type.__subclasses__.OSError.n" : Str), .str ("type.__subclasses__.OSError.n" : Str) 323, (.int (1) 0)⟩].toArray 12), #[]⟩
noncomputable def ob3 (P : Params) : Obj := ⟨(.type "dict"), none, (.dict [⟨PyData.keyHash P ("__name__" : Str), .str ("__name__" : Str) 165, (.str ("law_op0201_01" : Str) 1180)⟩,
    ⟨PyData.keyHash P ("__doc__" : Str), .str ("__doc__" : Str) 166, .none⟩,
    ⟨PyData.keyHash P ("__package__" : Str), .str ("__package__" : Str) 167, .none⟩,
    ⟨PyData.keyHash P ("__loader__" : Str), .str ("__loader__" : Str) 168, (.builtin "__main__.__loader__#\x6fpaque")⟩,
    ⟨PyData.keyHash P ("__spec__" : Str), .str ("__spec__" : Str) 169, .none⟩,
    ⟨PyData.keyHash P ("__annotations__" : Str), .str ("__annotations__" : Str) 170, (.ref 6)⟩,
    ⟨PyData.keyHash P ("__builtins__" : Str), .str ("__builtins__" : Str) 171, (.ref 4)⟩,
    ⟨PyData.keyHash P ("__file__" : Str), .str ("__file__" : Str) 173, (.str ("/claim/cut.py" : Str) 172)⟩,
    ⟨PyData.keyHash P ("__cached__" : Str), .str ("__cached__" : Str) 174, .none⟩,
    ⟨PyData.keyHash P ("deque" : Str), .str ("deque" : Str) 272, (.type "collections.deque")⟩,
    ⟨PyData.keyHash P ("_wall" : Str), .str ("_wall" : Str) 285, (.ref 39)⟩,
    ⟨PyData.keyHash P ("_whence" : Str), .str ("_whence" : Str) 295, (.ref 46)⟩,
    ⟨PyData.keyHash P ("_index" : Str), .str ("_index" : Str) 303, (.ref 53)⟩,
    ⟨PyData.keyHash P ("UnsupportedOperation" : Str), .str ("UnsupportedOperation" : Str) 325, (.ref 63)⟩,
    ⟨PyData.keyHash P ("IOBase" : Str), .str ("IOBase" : Str) 357, (.ref 83)⟩,
    ⟨PyData.keyHash P ("BufferedIOBase" : Str), .str ("BufferedIOBase" : Str) 375, (.ref 98)⟩,
    ⟨PyData.keyHash P ("TextIOBase" : Str), .str ("TextIOBase" : Str) 393, (.ref 110)⟩,
    ⟨PyData.keyHash P ("BytesIO" : Str), .str ("BytesIO" : Str) 655, (.ref 340)⟩,
    ⟨PyData.keyHash P ("StringIO" : Str), .str ("StringIO" : Str) 942, (.ref 587)⟩,
    ⟨PyData.keyHash P ("_kind" : Str), .str ("_kind" : Str) 953, (.ref 596)⟩,
    ⟨PyData.keyHash P ("_fspath" : Str), .str ("_fspath" : Str) 962, (.ref 603)⟩,
    ⟨PyData.keyHash P ("_check_arg_types" : Str), .str ("_check_arg_types" : Str) 972, (.ref 610)⟩,
    ⟨PyData.keyHash P ("isabs" : Str), .str ("isabs" : Str) 979, (.ref 617)⟩,
    ⟨PyData.keyHash P ("join" : Str), .str ("join" : Str) 990, (.ref 624)⟩,
    ⟨PyData.keyHash P ("dirname" : Str), .str ("dirname" : Str) 1000, (.ref 631)⟩,
    ⟨PyData.keyHash P ("shlex" : Str), .str ("shlex" : Str) 1141, (.ref 722)⟩,
    ⟨PyData.keyHash P ("split" : Str), .str ("split" : Str) 1151, (.ref 734)⟩,
    ⟨PyData.keyHash P ("_initial_missing" : Str), .str ("_initial_missing" : Str) 1154, (.ref 735)⟩,
    ⟨PyData.keyHash P ("reduce" : Str), .str ("reduce" : Str) 1166, (.ref 743)⟩,
    ⟨PyData.keyHash P ("_byteswap" : Str), .str ("_byteswap" : Str) 1179, (.ref 750)⟩,
    ⟨PyData.keyHash P ("_law_sign" : Str), .str ("_law_sign" : Str) 1189, (.ref 757)⟩,
    ⟨PyData.keyHash P ("_law_mirror" : Str), .str ("_law_mirror" : Str) 1195, (.ref 762)⟩,
    ⟨PyData.keyHash P ("_law_open" : Str), .str ("_law_open" : Str) 1203, (.ref 769)⟩,
    ⟨PyData.keyHash P ("_law_words" : Str), .str ("_law_words" : Str) 1214, (.ref 776)⟩,
    ⟨PyData.keyHash P ("_law_read" : Str), .str ("_law_read" : Str) 1221, (.ref 783)⟩,
    ⟨PyData.keyHash P ("_law_holds" : Str), .str ("_law_holds" : Str) 1227, (.ref 788)⟩,
    ⟨PyData.keyHash P ("law" : Str), .str ("law" : Str) 1233, (.ref 793)⟩].toArray 37), #[]⟩
noncomputable def ob52 (_P : Params) : Obj := ⟨(.type "code"), none, (.fields #[(.str ("_index" : Str) 296), (.str ("_index" : Str) 297), (.str ("/claim/cut.py" : Str) 298), (.int (11) 0), (.int (2) 0), (.int (0) 0), (.int (0) 0), (.int (3) 0), (.ref 47), (.bool true), (.int (273) 0), (.ref 48), .none, (.ref 49), (.ref 50), (.ref 51), (.int (301) 0), (.int (11) 0), (.str ("/claim/cut.py" : Str) 302)]), #[]⟩
noncomputable def ob53 (P : Params) : Obj := ⟨(.type "function"), none, (.func (fnOf ("_index" : Str) ("_index" : Str) f_index_p f_index_b f_index_s .none .none .none (.str ("io" : Str) 286) none (.ref 52) .none)), #[]⟩
noncomputable def ob79 (_P : Params) : Obj := ⟨(.type "code"), none, (.fields #[(.str ("__new__" : Str) 340), (.str ("IOBase.__new__" : Str) 341), (.str ("/claim/cut.py" : Str) 342), (.int (23) 0), (.int (1) 0), (.int (1) 0), (.int (0) 0), (.int (15) 0), (.ref 74), (.bool true), (.int (273) 0), (.ref 75), .none, (.ref 76), (.ref 77), (.ref 78), (.int (346) 0), (.int (23) 0), (.str ("/claim/cut.py" : Str) 347)]), #[]⟩
noncomputable def ob80 (P : Params) : Obj := ⟨(.type "function"), none, (.func (fnOf ("__new__" : Str) ("IOBase.__new__" : Str) fIOBase___new___p fIOBase___new___b fIOBase___new___s .none .none .none (.str ("io" : Str) 286) none (.ref 79) .none)), #[]⟩
noncomputable def ob82 (P : Params) : Obj := ⟨(.type "dict"), none, (.dict [⟨PyData.keyHash P ("__module__" : Str), .str ("__module__" : Str) 333, (.str ("io" : Str) 338)⟩,
    ⟨PyData.keyHash P ("__firstlineno__" : Str), .str ("__firstlineno__" : Str) 337, (.int (20) 336)⟩,
    ⟨PyData.keyHash P ("__new__" : Str), .str ("__new__" : Str) 348, (.ref 84)⟩,
    ⟨PyData.keyHash P ("__static_attributes__" : Str), .str ("__static_attributes__" : Str) 349, (.ref 81)⟩,
    ⟨PyData.keyHash P ("__dict__" : Str), .str ("__dict__" : Str) 352, (.ref 85)⟩,
    ⟨PyData.keyHash P ("__weakref__" : Str), .str ("__weakref__" : Str) 354, (.ref 86)⟩,
    ⟨PyData.keyHash P ("__doc__" : Str), .str ("__doc__" : Str) 355, .none⟩].toArray 4), #[]⟩
noncomputable def ob83 (P : Params) : Obj := ⟨(.type "type"), none, (.cls { name := ("IOBase" : Str), bases := [(.type "object")], mro := [(.ref 83), (.type "object")], ns := 82, qualname := ("IOBase" : Str), hasDict := true, slotNames := [], subclasses := [(.ref 98), (.ref 110)], abstract := false, collection := none, hasDel := false }), #[none, none, (some (.str ("IOBase" : Str) 326)), (some (.str ("IOBase" : Str) 334)), (some .none), (some (.bool true))]⟩
noncomputable def ob84 (P : Params) : Obj := ⟨(.type "staticmethod"), none, (.fields #[(.ref 80)]), #[]⟩
noncomputable def ob109 (P : Params) : Obj := ⟨(.type "dict"), none, (.dict [⟨PyData.keyHash P ("__module__" : Str), .str ("__module__" : Str) 383, (.str ("io" : Str) 388)⟩,
    ⟨PyData.keyHash P ("__firstlineno__" : Str), .str ("__firstlineno__" : Str) 387, (.int (29) 386)⟩,
    ⟨PyData.keyHash P ("__static_attributes__" : Str), .str ("__static_attributes__" : Str) 390, (.ref 108)⟩,
    ⟨PyData.keyHash P ("__doc__" : Str), .str ("__doc__" : Str) 391, .none⟩].toArray 2), #[]⟩
noncomputable def ob110 (P : Params) : Obj := ⟨(.type "type"), none, (.cls { name := ("TextIOBase" : Str), bases := [(.ref 83)], mro := [(.ref 110), (.ref 83), (.type "object")], ns := 109, qualname := ("TextIOBase" : Str), hasDict := true, slotNames := [], subclasses := [(.ref 587)], abstract := false, collection := none, hasDel := false }), #[(some (.ref 101)), none, (some (.str ("TextIOBase" : Str) 376)), (some (.str ("TextIOBase" : Str) 384)), (some .none), (some (.bool true))]⟩
noncomputable def ob340 (P : Params) : Obj := ⟨(.type "type"), none, (.cls { name := ("BytesIO" : Str), bases := [(.ref 98)], mro := [(.ref 340), (.ref 98), (.ref 83), (.type "object")], ns := 339, qualname := ("BytesIO" : Str), hasDict := true, slotNames := [], subclasses := [], abstract := false, collection := none, hasDel := false }), #[(some (.ref 113)), none, (some (.str ("BytesIO" : Str) 394)), (some (.str ("BytesIO" : Str) 402)), (some .none), (some (.bool true))]⟩
noncomputable def ob350 (P : Params) : Obj := ⟨(.type "tuple"), none, (.seq #[(.str ("" : Str) 670), (.str ("\n" : Str) 671)] 0), #[]⟩
noncomputable def ob356 (_P : Params) : Obj := ⟨(.type "code"), none, (.fields #[(.str ("__init__" : Str) 672), (.str ("StringIO.__init__" : Str) 673), (.str ("/claim/cut.py" : Str) 674), (.int (204) 0), (.int (3) 0), (.int (0) 0), (.int (0) 0), (.int (3) 0), (.ref 351), (.bool true), (.int (273) 0), (.ref 352), .none, (.ref 353), (.ref 354), (.ref 355), (.int (678) 0), (.int (204) 0), (.str ("/claim/cut.py" : Str) 679)]), #[]⟩
noncomputable def ob357 (P : Params) : Obj := ⟨(.type "function"), none, (.func (fnOf ("__init__" : Str) ("StringIO.__init__" : Str) fStringIO___init___p fStringIO___init___b fStringIO___init___s (.ref 350) .none .none (.str ("io" : Str) 286) none (.ref 356) .none)), #[]⟩
noncomputable def ob363 (_P : Params) : Obj := ⟨(.type "code"), none, (.fields #[(.str ("__translated" : Str) 681), (.str ("StringIO.__translated" : Str) 682), (.str ("/claim/cut.py" : Str) 683), (.int (217) 0), (.int (2) 0), (.int (0) 0), (.int (0) 0), (.int (3) 0), (.ref 358), (.bool true), (.int (273) 0), (.ref 359), .none, (.ref 360), (.ref 361), (.ref 362), (.int (687) 0), (.int (217) 0), (.str ("/claim/cut.py" : Str) 688)]), #[]⟩
noncomputable def ob364 (P : Params) : Obj := ⟨(.type "function"), none, (.func (fnOf ("__translated" : Str) ("StringIO.__translated" : Str) fStringIO___translated_p fStringIO___translated_b fStringIO___translated_s .none .none .none (.str ("io" : Str) 286) none (.ref 363) .none)), #[]⟩
noncomputable def ob370 (_P : Params) : Obj := ⟨(.type "code"), none, (.fields #[(.str ("__check" : Str) 690), (.str ("StringIO.__check" : Str) 691), (.str ("/claim/cut.py" : Str) 692), (.int (225) 0), (.int (1) 0), (.int (0) 0), (.int (0) 0), (.int (3) 0), (.ref 365), (.bool true), (.int (273) 0), (.ref 366), .none, (.ref 367), (.ref 368), (.ref 369), (.int (694) 0), (.int (225) 0), (.str ("/claim/cut.py" : Str) 695)]), #[]⟩
noncomputable def ob371 (P : Params) : Obj := ⟨(.type "function"), none, (.func (fnOf ("__check" : Str) ("StringIO.__check" : Str) fStringIO___check_p fStringIO___check_b fStringIO___check_s .none .none .none (.str ("io" : Str) 286) none (.ref 370) .none)), #[]⟩
noncomputable def ob526 (P : Params) : Obj := ⟨(.type "tuple"), none, (.seq #[(.int (-1) 863)] 0), #[]⟩
noncomputable def ob532 (_P : Params) : Obj := ⟨(.type "code"), none, (.fields #[(.str ("read" : Str) 864), (.str ("StringIO.read" : Str) 865), (.str ("/claim/cut.py" : Str) 866), (.int (347) 0), (.int (2) 0), (.int (2) 0), (.int (0) 0), (.int (3) 0), (.ref 527), (.bool true), (.int (273) 0), (.ref 528), .none, (.ref 529), (.ref 530), (.ref 531), (.int (871) 0), (.int (347) 0), (.str ("/claim/cut.py" : Str) 872)]), #[]⟩
noncomputable def ob533 (P : Params) : Obj := ⟨(.type "function"), none, (.func (fnOf ("read" : Str) ("StringIO.read" : Str) fStringIO_read_p fStringIO_read_b fStringIO_read_s (.ref 526) .none .none (.str ("io" : Str) 286) none (.ref 532) .none)), #[]⟩
noncomputable def ob586 (P : Params) : Obj := ⟨(.type "dict"), none, (.dict [⟨PyData.keyHash P ("__module__" : Str), .str ("__module__" : Str) 663, (.str ("_io" : Str) 668)⟩,
    ⟨PyData.keyHash P ("__firstlineno__" : Str), .str ("__firstlineno__" : Str) 667, (.int (201) 666)⟩,
    ⟨PyData.keyHash P ("__init__" : Str), .str ("__init__" : Str) 680, (.ref 357)⟩,
    ⟨PyData.keyHash P ("_StringIO__translated" : Str), .str ("_StringIO__translated" : Str) 689, (.ref 364)⟩,
    ⟨PyData.keyHash P ("_StringIO__check" : Str), .str ("_StringIO__check" : Str) 696, (.ref 371)⟩,
    ⟨PyData.keyHash P ("_StringIO__check_dot" : Str), .str ("_StringIO__check_dot" : Str) 703, (.ref 378)⟩,
    ⟨PyData.keyHash P ("_StringIO__line" : Str), .str ("_StringIO__line" : Str) 718, (.ref 385)⟩,
    ⟨PyData.keyHash P ("closed" : Str), .str ("closed" : Str) 726, (.ref 393)⟩,
    ⟨PyData.keyHash P ("line_buffering" : Str), .str ("line_buffering" : Str) 734, (.ref 401)⟩,
    ⟨PyData.keyHash P ("newlines" : Str), .str ("newlines" : Str) 742, (.ref 409)⟩,
    ⟨PyData.keyHash P ("encoding" : Str), .str ("encoding" : Str) 750, (.ref 417)⟩,
    ⟨PyData.keyHash P ("errors" : Str), .str ("errors" : Str) 758, (.ref 425)⟩,
    ⟨PyData.keyHash P ("close" : Str), .str ("close" : Str) 765, (.ref 432)⟩,
    ⟨PyData.keyHash P ("__enter__" : Str), .str ("__enter__" : Str) 772, (.ref 439)⟩,
    ⟨PyData.keyHash P ("__exit__" : Str), .str ("__exit__" : Str) 780, (.ref 446)⟩,
    ⟨PyData.keyHash P ("readable" : Str), .str ("readable" : Str) 787, (.ref 453)⟩,
    ⟨PyData.keyHash P ("writable" : Str), .str ("writable" : Str) 794, (.ref 460)⟩,
    ⟨PyData.keyHash P ("seekable" : Str), .str ("seekable" : Str) 801, (.ref 467)⟩,
    ⟨PyData.keyHash P ("isatty" : Str), .str ("isatty" : Str) 808, (.ref 474)⟩,
    ⟨PyData.keyHash P ("flush" : Str), .str ("flush" : Str) 815, (.ref 481)⟩,
    ⟨PyData.keyHash P ("fileno" : Str), .str ("fileno" : Str) 822, (.ref 488)⟩,
    ⟨PyData.keyHash P ("detach" : Str), .str ("detach" : Str) 829, (.ref 495)⟩,
    ⟨PyData.keyHash P ("getvalue" : Str), .str ("getvalue" : Str) 836, (.ref 502)⟩,
    ⟨PyData.keyHash P ("tell" : Str), .str ("tell" : Str) 843, (.ref 509)⟩,
    ⟨PyData.keyHash P ("seek" : Str), .str ("seek" : Str) 853, (.ref 517)⟩,
    ⟨PyData.keyHash P ("truncate" : Str), .str ("truncate" : Str) 861, (.ref 525)⟩,
    ⟨PyData.keyHash P ("read" : Str), .str ("read" : Str) 873, (.ref 533)⟩,
    ⟨PyData.keyHash P ("readline" : Str), .str ("readline" : Str) 883, (.ref 541)⟩,
    ⟨PyData.keyHash P ("readlines" : Str), .str ("readlines" : Str) 893, (.ref 549)⟩,
    ⟨PyData.keyHash P ("__iter__" : Str), .str ("__iter__" : Str) 900, (.ref 556)⟩,
    ⟨PyData.keyHash P ("__next__" : Str), .str ("__next__" : Str) 908, (.ref 563)⟩,
    ⟨PyData.keyHash P ("write" : Str), .str ("write" : Str) 920, (.ref 570)⟩,
    ⟨PyData.keyHash P ("writelines" : Str), .str ("writelines" : Str) 928, (.ref 577)⟩,
    ⟨PyData.keyHash P ("__repr__" : Str), .str ("__repr__" : Str) 935, (.ref 584)⟩,
    ⟨PyData.keyHash P ("__static_attributes__" : Str), .str ("__static_attributes__" : Str) 939, (.ref 585)⟩,
    ⟨PyData.keyHash P ("__doc__" : Str), .str ("__doc__" : Str) 940, .none⟩].toArray 2), #[]⟩
noncomputable def ob587 (P : Params) : Obj := ⟨(.type "type"), none, (.cls { name := ("StringIO" : Str), bases := [(.ref 110)], mro := [(.ref 587), (.ref 110), (.ref 83), (.type "object")], ns := 586, qualname := ("StringIO" : Str), hasDict := true, slotNames := [], subclasses := [], abstract := false, collection := none, hasDel := false }), #[(some (.ref 343)), none, (some (.str ("StringIO" : Str) 656)), (some (.str ("StringIO" : Str) 664)), (some .none), (some (.bool true))]⟩
noncomputable def ob639 (P : Params) : Obj := ⟨(.type "tuple"), none, (.seq #[.none, .none, (.bool false), (.bool false)] 0), #[]⟩
noncomputable def ob645 (_P : Params) : Obj := ⟨(.type "code"), none, (.fields #[(.str ("__init__" : Str) 1015), (.str ("shlex.__init__" : Str) 1016), (.str ("/claim/cut.py" : Str) 1017), (.int (472) 0), (.int (5) 0), (.int (0) 0), (.int (0) 0), (.int (3) 0), (.ref 640), (.bool true), (.int (273) 0), (.ref 641), .none, (.ref 642), (.ref 643), (.ref 644), (.int (1024) 0), (.int (472) 0), (.str ("/claim/cut.py" : Str) 1025)]), #[]⟩
noncomputable def ob646 (P : Params) : Obj := ⟨(.type "function"), none, (.func (fnOf ("__init__" : Str) ("shlex.__init__" : Str) fshlex___init___p fshlex___init___b fshlex___init___s (.ref 639) .none .none (.str ("cpy313.shlex" : Str) 1001) none (.ref 645) .none)), #[]⟩
noncomputable def ob652 (_P : Params) : Obj := ⟨(.type "code"), none, (.fields #[(.str ("punctuation_chars" : Str) 1027), (.str ("shlex.punctuation_chars" : Str) 1028), (.str ("/claim/cut.py" : Str) 1029), (.int (513) 0), (.int (1) 0), (.int (0) 0), (.int (0) 0), (.int (3) 0), (.ref 647), (.bool true), (.int (273) 0), (.ref 648), .none, (.ref 649), (.ref 650), (.ref 651), (.int (1031) 0), (.int (513) 0), (.str ("/claim/cut.py" : Str) 1032)]), #[]⟩
noncomputable def ob653 (P : Params) : Obj := ⟨(.type "function"), none, (.func (fnOf ("punctuation_chars" : Str) ("shlex.punctuation_chars" : Str) fshlex_punctuation_chars_p fshlex_punctuation_chars_b fshlex_punctuation_chars_s .none .none .none (.str ("cpy313.shlex" : Str) 1001) none (.ref 652) .none)), #[]⟩
noncomputable def ob654 (P : Params) : Obj := ⟨(.type "property"), none, (.fields #[(.ref 653), .none, .none, .none, (.str ("punctuation_chars" : Str) 1034), (.bool false)]), #[]⟩
noncomputable def ob682 (_P : Params) : Obj := ⟨(.type "code"), none, (.fields #[(.str ("get_token" : Str) 1059), (.str ("shlex.get_token" : Str) 1060), (.str ("/claim/cut.py" : Str) 1061), (.int (540) 0), (.int (1) 0), (.int (0) 0), (.int (0) 0), (.int (3) 0), (.ref 677), (.bool true), (.int (273) 0), (.ref 678), .none, (.ref 679), (.ref 680), (.ref 681), (.int (1068) 0), (.int (540) 0), (.str ("/claim/cut.py" : Str) 1069)]), #[]⟩
noncomputable def ob683 (P : Params) : Obj := ⟨(.type "function"), none, (.func (fnOf ("get_token" : Str) ("shlex.get_token" : Str) fshlex_get_token_p fshlex_get_token_b fshlex_get_token_s .none .none .none (.str ("cpy313.shlex" : Str) 1001) none (.ref 682) .none)), #[]⟩
noncomputable def ob689 (_P : Params) : Obj := ⟨(.type "code"), none, (.fields #[(.str ("read_token" : Str) 1071), (.str ("shlex.read_token" : Str) 1072), (.str ("/claim/cut.py" : Str) 1073), (.int (567) 0), (.int (1) 0), (.int (0) 0), (.int (0) 0), (.int (3) 0), (.ref 684), (.bool true), (.int (273) 0), (.ref 685), .none, (.ref 686), (.ref 687), (.ref 688), (.int (1079) 0), (.int (567) 0), (.str ("/claim/cut.py" : Str) 1080)]), #[]⟩
noncomputable def ob690 (P : Params) : Obj := ⟨(.type "function"), none, (.func (fnOf ("read_token" : Str) ("shlex.read_token" : Str) fshlex_read_token_p fshlex_read_token_b fshlex_read_token_s .none .none .none (.str ("cpy313.shlex" : Str) 1001) none (.ref 689) .none)), #[]⟩
noncomputable def ob711 (_P : Params) : Obj := ⟨(.type "code"), none, (.fields #[(.str ("__iter__" : Str) 1099), (.str ("shlex.__iter__" : Str) 1100), (.str ("/claim/cut.py" : Str) 1101), (.int (714) 0), (.int (1) 0), (.int (0) 0), (.int (0) 0), (.int (3) 0), (.ref 706), (.bool true), (.int (273) 0), (.ref 707), .none, (.ref 708), (.ref 709), (.ref 710), (.int (1103) 0), (.int (714) 0), (.str ("/claim/cut.py" : Str) 1104)]), #[]⟩
noncomputable def ob712 (P : Params) : Obj := ⟨(.type "function"), none, (.func (fnOf ("__iter__" : Str) ("shlex.__iter__" : Str) fshlex___iter___p fshlex___iter___b fshlex___iter___s .none .none .none (.str ("cpy313.shlex" : Str) 1001) none (.ref 711) .none)), #[]⟩
noncomputable def ob718 (_P : Params) : Obj := ⟨(.type "code"), none, (.fields #[(.str ("__next__" : Str) 1106), (.str ("shlex.__next__" : Str) 1107), (.str ("/claim/cut.py" : Str) 1108), (.int (717) 0), (.int (1) 0), (.int (0) 0), (.int (0) 0), (.int (3) 0), (.ref 713), (.bool true), (.int (273) 0), (.ref 714), .none, (.ref 715), (.ref 716), (.ref 717), (.int (1111) 0), (.int (717) 0), (.str ("/claim/cut.py" : Str) 1112)]), #[]⟩
noncomputable def ob719 (P : Params) : Obj := ⟨(.type "function"), none, (.func (fnOf ("__next__" : Str) ("shlex.__next__" : Str) fshlex___next___p fshlex___next___b fshlex___next___s .none .none .none (.str ("cpy313.shlex" : Str) 1001) none (.ref 718) .none)), #[]⟩
noncomputable def ob721 (P : Params) : Obj := ⟨(.type "dict"), none, (.dict [⟨PyData.keyHash P ("__module__" : Str), .str ("__module__" : Str) 1010, (.str ("cpy313.shlex" : Str) 1001)⟩,
    ⟨PyData.keyHash P ("__firstlineno__" : Str), .str ("__firstlineno__" : Str) 1014, (.int (470) 1013)⟩,
    ⟨PyData.keyHash P ("__init__" : Str), .str ("__init__" : Str) 1026, (.ref 646)⟩,
    ⟨PyData.keyHash P ("punctuation_chars" : Str), .str ("punctuation_chars" : Str) 1034, (.ref 654)⟩,
    ⟨PyData.keyHash P ("push_token" : Str), .str ("push_token" : Str) 1042, (.ref 661)⟩,
    ⟨PyData.keyHash P ("push_source" : Str), .str ("push_source" : Str) 1051, (.ref 669)⟩,
    ⟨PyData.keyHash P ("pop_source" : Str), .str ("pop_source" : Str) 1058, (.ref 676)⟩,
    ⟨PyData.keyHash P ("get_token" : Str), .str ("get_token" : Str) 1070, (.ref 683)⟩,
    ⟨PyData.keyHash P ("read_token" : Str), .str ("read_token" : Str) 1081, (.ref 690)⟩,
    ⟨PyData.keyHash P ("sourcehook" : Str), .str ("sourcehook" : Str) 1089, (.ref 697)⟩,
    ⟨PyData.keyHash P ("error_leader" : Str), .str ("error_leader" : Str) 1098, (.ref 705)⟩,
    ⟨PyData.keyHash P ("__iter__" : Str), .str ("__iter__" : Str) 1105, (.ref 712)⟩,
    ⟨PyData.keyHash P ("__next__" : Str), .str ("__next__" : Str) 1113, (.ref 719)⟩,
    ⟨PyData.keyHash P ("__static_attributes__" : Str), .str ("__static_attributes__" : Str) 1134, (.ref 720)⟩,
    ⟨PyData.keyHash P ("__dict__" : Str), .str ("__dict__" : Str) 1136, (.ref 723)⟩,
    ⟨PyData.keyHash P ("__weakref__" : Str), .str ("__weakref__" : Str) 1138, (.ref 724)⟩,
    ⟨PyData.keyHash P ("__doc__" : Str), .str ("__doc__" : Str) 1139, .none⟩].toArray 4), #[]⟩
noncomputable def ob722 (P : Params) : Obj := ⟨(.type "type"), none, (.cls { name := ("shlex" : Str), bases := [(.type "object")], mro := [(.ref 722), (.type "object")], ns := 721, qualname := ("shlex" : Str), hasDict := true, slotNames := [], subclasses := [], abstract := false, collection := none, hasDel := false }), #[none, none, (some (.str ("shlex" : Str) 1003)), (some (.str ("shlex" : Str) 1011)), (some (.builtin "object.__new__")), (some (.bool true))]⟩
noncomputable def ob727 (P : Params) : Obj := ⟨(.type "tuple"), none, (.seq #[(.bool false), (.bool true)] 0), #[]⟩
noncomputable def ob733 (_P : Params) : Obj := ⟨(.type "code"), none, (.fields #[(.str ("split" : Str) 1142), (.str ("split" : Str) 1143), (.str ("/claim/cut.py" : Str) 1144), (.int (722) 0), (.int (3) 0), (.int (0) 0), (.int (0) 0), (.int (3) 0), (.ref 728), (.bool true), (.int (273) 0), (.ref 729), .none, (.ref 730), (.ref 731), (.ref 732), (.int (1149) 0), (.int (722) 0), (.str ("/claim/cut.py" : Str) 1150)]), #[]⟩
noncomputable def ob734 (P : Params) : Obj := ⟨(.type "function"), none, (.func (fnOf ("split" : Str) ("split" : Str) fsplit_p fsplit_b fsplit_s (.ref 727) .none .none (.str ("cpy313.shlex" : Str) 1001) none (.ref 733) .none)), #[]⟩
noncomputable def ob735 (P : Params) : Obj := ⟨(.type "object"), none, .plain, #[]⟩
noncomputable def ob736 (P : Params) : Obj := ⟨(.type "tuple"), none, (.seq #[(.ref 735)] 0), #[]⟩
noncomputable def ob742 (_P : Params) : Obj := ⟨(.type "code"), none, (.fields #[(.str ("reduce" : Str) 1155), (.str ("reduce" : Str) 1156), (.str ("/claim/cut.py" : Str) 1157), (.int (732) 0), (.int (3) 0), (.int (0) 0), (.int (0) 0), (.int (3) 0), (.ref 737), (.bool true), (.int (273) 0), (.ref 738), .none, (.ref 739), (.ref 740), (.ref 741), (.int (1164) 0), (.int (732) 0), (.str ("/claim/cut.py" : Str) 1165)]), #[]⟩
noncomputable def ob743 (P : Params) : Obj := ⟨(.type "function"), none, (.func (fnOf ("reduce" : Str) ("reduce" : Str) freduce_p freduce_b freduce_s (.ref 736) .none .none (.str ("cpy313.functools" : Str) 1152) none (.ref 742) .none)), #[]⟩
noncomputable def ob749 (_P : Params) : Obj := ⟨(.type "code"), none, (.fields #[(.str ("_byteswap" : Str) 1169), (.str ("_byteswap" : Str) 1170), (.str ("/claim/cut.py" : Str) 1171), (.int (745) 0), (.int (2) 0), (.int (0) 0), (.int (0) 0), (.int (3) 0), (.ref 744), (.bool true), (.int (273) 0), (.ref 745), .none, (.ref 746), (.ref 747), (.ref 748), (.int (1177) 0), (.int (745) 0), (.str ("/claim/cut.py" : Str) 1178)]), #[]⟩
noncomputable def ob750 (P : Params) : Obj := ⟨(.type "function"), none, (.func (fnOf ("_byteswap" : Str) ("_byteswap" : Str) f_byteswap_p f_byteswap_b f_byteswap_s .none .none .none (.str ("cpy313.wave" : Str) 1167) none (.ref 749) .none)), #[]⟩
noncomputable def ob756 (_P : Params) : Obj := ⟨(.type "code"), none, (.fields #[(.str ("_law_sign" : Str) 1182), (.str ("_law_sign" : Str) 1183), (.str ("/claim/cut.py" : Str) 1184), (.int (752) 0), (.int (1) 0), (.int (0) 0), (.int (0) 0), (.int (3) 0), (.ref 751), (.bool true), (.int (273) 0), (.ref 752), .none, (.ref 753), (.ref 754), (.ref 755), (.int (1187) 0), (.int (752) 0), (.str ("/claim/cut.py" : Str) 1188)]), #[]⟩
noncomputable def ob757 (P : Params) : Obj := ⟨(.type "function"), none, (.func (fnOf ("_law_sign" : Str) ("_law_sign" : Str) f_law_sign_p f_law_sign_b f_law_sign_s .none .none .none (.str ("law_op0201_01" : Str) 1180) none (.ref 756) .none)), #[]⟩
noncomputable def ob761 (_P : Params) : Obj := ⟨(.type "code"), none, (.fields #[(.str ("_law_mirror" : Str) 1190), (.str ("_law_mirror" : Str) 1191), (.str ("/claim/cut.py" : Str) 1192), (.int (757) 0), (.int (1) 0), (.int (0) 0), (.int (0) 0), (.int (3) 0), (.ref 758), (.bool true), (.int (273) 0), (.ref 759), .none, .none, .none, (.ref 760), (.int (1193) 0), (.int (757) 0), (.str ("/claim/cut.py" : Str) 1194)]), #[]⟩
noncomputable def ob762 (P : Params) : Obj := ⟨(.type "function"), none, (.func (fnOf ("_law_mirror" : Str) ("_law_mirror" : Str) f_law_mirror_p f_law_mirror_b f_law_mirror_s .none .none .none (.str ("law_op0201_01" : Str) 1180) none (.ref 761) .none)), #[]⟩
noncomputable def ob768 (_P : Params) : Obj := ⟨(.type "code"), none, (.fields #[(.str ("_law_open" : Str) 1196), (.str ("_law_open" : Str) 1197), (.str ("/claim/cut.py" : Str) 1198), (.int (760) 0), (.int (2) 0), (.int (0) 0), (.int (0) 0), (.int (3) 0), (.ref 763), (.bool true), (.int (273) 0), (.ref 764), .none, (.ref 765), (.ref 766), (.ref 767), (.int (1201) 0), (.int (760) 0), (.str ("/claim/cut.py" : Str) 1202)]), #[]⟩
noncomputable def ob769 (P : Params) : Obj := ⟨(.type "function"), none, (.func (fnOf ("_law_open" : Str) ("_law_open" : Str) f_law_open_p f_law_open_b f_law_open_s .none .none .none (.str ("law_op0201_01" : Str) 1180) none (.ref 768) .none)), #[]⟩
noncomputable def ob775 (_P : Params) : Obj := ⟨(.type "code"), none, (.fields #[(.str ("_law_words" : Str) 1204), (.str ("_law_words" : Str) 1205), (.str ("/claim/cut.py" : Str) 1206), (.int (766) 0), (.int (1) 0), (.int (0) 0), (.int (0) 0), (.int (3) 0), (.ref 770), (.bool true), (.int (273) 0), (.ref 771), .none, (.ref 772), (.ref 773), (.ref 774), (.int (1212) 0), (.int (766) 0), (.str ("/claim/cut.py" : Str) 1213)]), #[]⟩
noncomputable def ob776 (P : Params) : Obj := ⟨(.type "function"), none, (.func (fnOf ("_law_words" : Str) ("_law_words" : Str) f_law_words_p f_law_words_b f_law_words_s .none .none .none (.str ("law_op0201_01" : Str) 1180) none (.ref 775) .none)), #[]⟩
noncomputable def ob782 (_P : Params) : Obj := ⟨(.type "code"), none, (.fields #[(.str ("_law_read" : Str) 1215), (.str ("_law_read" : Str) 1216), (.str ("/claim/cut.py" : Str) 1217), (.int (780) 0), (.int (1) 0), (.int (0) 0), (.int (0) 0), (.int (3) 0), (.ref 777), (.bool true), (.int (273) 0), (.ref 778), .none, (.ref 779), (.ref 780), (.ref 781), (.int (1219) 0), (.int (780) 0), (.str ("/claim/cut.py" : Str) 1220)]), #[]⟩
noncomputable def ob783 (P : Params) : Obj := ⟨(.type "function"), none, (.func (fnOf ("_law_read" : Str) ("_law_read" : Str) f_law_read_p f_law_read_b f_law_read_s .none .none .none (.str ("law_op0201_01" : Str) 1180) none (.ref 782) .none)), #[]⟩
noncomputable def ob787 (_P : Params) : Obj := ⟨(.type "code"), none, (.fields #[(.str ("_law_holds" : Str) 1222), (.str ("_law_holds" : Str) 1223), (.str ("/claim/cut.py" : Str) 1224), (.int (785) 0), (.int (4) 0), (.int (0) 0), (.int (0) 0), (.int (3) 0), (.ref 784), (.bool true), (.int (273) 0), (.ref 785), .none, .none, .none, (.ref 786), (.int (1225) 0), (.int (785) 0), (.str ("/claim/cut.py" : Str) 1226)]), #[]⟩
noncomputable def ob788 (P : Params) : Obj := ⟨(.type "function"), none, (.func (fnOf ("_law_holds" : Str) ("_law_holds" : Str) f_law_holds_p f_law_holds_b f_law_holds_s .none .none .none (.str ("law_op0201_01" : Str) 1180) none (.ref 787) .none)), #[]⟩
noncomputable def ob792 (_P : Params) : Obj := ⟨(.type "code"), none, (.fields #[(.str ("law" : Str) 1228), (.str ("law" : Str) 1229), (.str ("/claim/cut.py" : Str) 1230), (.int (793) 0), (.int (1) 0), (.int (0) 0), (.int (0) 0), (.int (3) 0), (.ref 789), (.bool true), (.int (273) 0), (.ref 790), .none, .none, .none, (.ref 791), (.int (1231) 0), (.int (793) 0), (.str ("/claim/cut.py" : Str) 1232)]), #[]⟩
noncomputable def ob793 (P : Params) : Obj := ⟨(.type "function"), none, (.func (fnOf ("law" : Str) ("law" : Str) flaw_p flaw_b flaw_s .none .none .none (.str ("law_op0201_01" : Str) 1180) none (.ref 792) .none)), #[]⟩
noncomputable def K : Params → Frag := fun P => (nat_lit 2, ob2 P) :: (nat_lit 3, ob3 P) :: (nat_lit 52, ob52 P) :: (nat_lit 53, ob53 P) :: (nat_lit 79, ob79 P) :: (nat_lit 80, ob80 P) :: (nat_lit 82, ob82 P) :: (nat_lit 83, ob83 P) :: (nat_lit 84, ob84 P) :: (nat_lit 109, ob109 P) :: (nat_lit 110, ob110 P) :: (nat_lit 340, ob340 P) :: (nat_lit 350, ob350 P) :: (nat_lit 356, ob356 P) :: (nat_lit 357, ob357 P) :: (nat_lit 363, ob363 P) :: (nat_lit 364, ob364 P) :: (nat_lit 370, ob370 P) :: (nat_lit 371, ob371 P) :: (nat_lit 526, ob526 P) :: (nat_lit 532, ob532 P) :: (nat_lit 533, ob533 P) :: (nat_lit 586, ob586 P) :: (nat_lit 587, ob587 P) :: (nat_lit 639, ob639 P) :: (nat_lit 645, ob645 P) :: (nat_lit 646, ob646 P) :: (nat_lit 652, ob652 P) :: (nat_lit 653, ob653 P) :: (nat_lit 654, ob654 P) :: (nat_lit 682, ob682 P) :: (nat_lit 683, ob683 P) :: (nat_lit 689, ob689 P) :: (nat_lit 690, ob690 P) :: (nat_lit 711, ob711 P) :: (nat_lit 712, ob712 P) :: (nat_lit 718, ob718 P) :: (nat_lit 719, ob719 P) :: (nat_lit 721, ob721 P) :: (nat_lit 722, ob722 P) :: (nat_lit 727, ob727 P) :: (nat_lit 733, ob733 P) :: (nat_lit 734, ob734 P) :: (nat_lit 735, ob735 P) :: (nat_lit 736, ob736 P) :: (nat_lit 742, ob742 P) :: (nat_lit 743, ob743 P) :: (nat_lit 749, ob749 P) :: (nat_lit 750, ob750 P) :: (nat_lit 756, ob756 P) :: (nat_lit 757, ob757 P) :: (nat_lit 761, ob761 P) :: (nat_lit 762, ob762 P) :: (nat_lit 768, ob768 P) :: (nat_lit 769, ob769 P) :: (nat_lit 775, ob775 P) :: (nat_lit 776, ob776 P) :: (nat_lit 782, ob782 P) :: (nat_lit 783, ob783 P) :: (nat_lit 787, ob787 P) :: (nat_lit 788, ob788 P) :: (nat_lit 792, ob792 P) :: (nat_lit 793, ob793 P) :: []
def KA : List Addr := nat_lit 2 :: nat_lit 3 :: nat_lit 52 :: nat_lit 53 :: nat_lit 79 :: nat_lit 80 :: nat_lit 82 :: nat_lit 83 :: nat_lit 84 :: nat_lit 109 :: nat_lit 110 :: nat_lit 340 :: nat_lit 350 :: nat_lit 356 :: nat_lit 357 :: nat_lit 363 :: nat_lit 364 :: nat_lit 370 :: nat_lit 371 :: nat_lit 526 :: nat_lit 532 :: nat_lit 533 :: nat_lit 586 :: nat_lit 587 :: nat_lit 639 :: nat_lit 645 :: nat_lit 646 :: nat_lit 652 :: nat_lit 653 :: nat_lit 654 :: nat_lit 682 :: nat_lit 683 :: nat_lit 689 :: nat_lit 690 :: nat_lit 711 :: nat_lit 712 :: nat_lit 718 :: nat_lit 719 :: nat_lit 721 :: nat_lit 722 :: nat_lit 727 :: nat_lit 733 :: nat_lit 734 :: nat_lit 735 :: nat_lit 736 :: nat_lit 742 :: nat_lit 743 :: nat_lit 749 :: nat_lit 750 :: nat_lit 756 :: nat_lit 757 :: nat_lit 761 :: nat_lit 762 :: nat_lit 768 :: nat_lit 769 :: nat_lit 775 :: nat_lit 776 :: nat_lit 782 :: nat_lit 783 :: nat_lit 787 :: nat_lit 788 :: nat_lit 792 :: nat_lit 793 :: []
-- _index @ 53
-- IOBase.__new__ @ 80
-- StringIO.__init__ @ 357
-- StringIO.__translated @ 364
-- StringIO.__check @ 371
-- StringIO.read @ 533
-- shlex.__init__ @ 646
-- shlex.punctuation_chars @ 653
-- shlex.get_token @ 683
-- shlex.read_token @ 690
-- shlex.__iter__ @ 712
-- shlex.__next__ @ 719
-- split @ 734
-- reduce @ 743
-- _byteswap @ 750
-- _law_sign @ 757
-- _law_mirror @ 762
-- _law_open @ 769
-- _law_words @ 776
-- _law_read @ 783
-- _law_holds @ 788
-- law @ 793
noncomputable def q : Program := { pw with main := { pw.main with body := pw.main.body.drop 33 } }
def loose : List Str := ["deque", "_wall", "_whence", "_index", "UnsupportedOperation", "IOBase", "BufferedIOBase", "TextIOBase", "BytesIO", "StringIO", "_kind", "_fspath", "_check_arg_types", "isabs", "join", "dirname", "shlex", "split", "_initial_missing", "reduce", "_byteswap", "_law_sign", "_law_mirror", "_law_open", "_law_words", "_law_read", "_law_holds"]
noncomputable def lawRec : DefRec := ⟨"law", flaw_p, flaw_b, flaw_s, posOf (stm pw.main.body 33)⟩
end Mine
end
section
open Lean Meta Elab PySem PySem.W PyProof.Rows Mine
local macro_rules | `(tactic| k_all) => `(tactic| exact allNe_of (by assumption) (by omega))
local macro_rules | `(tactic| k_all) => `(tactic| assumption)
local macro_rules | `(tactic| k_room) => `(tactic| ktr_room)
local macro_rules | `(tactic| walk_at "c_enter") => `(tactic| (refine' code_def ?k1 ?k2 ?k3 ?k4 ?k5 ?kA ?kF ?kK ?k6 ?k7 ?k8 ?k9 ?kB ?_ ?c2 ?c3 ?c4 ?c5; (case kA => exact rfl); (case kF => exact rfl); (case kK => assumption); (case k1 => k_asm); (case k2 => k_asm); (case k3 => k_asm); (case k4 => k_asm); (case k5 => k_asm); (case k6 => k_is); (case k7 => k_is); (case k8 => ktr_room); (case k9 => first | exact BindsTo.of_eq rfl | exact binds_K (by k_in) rfl (by k_is) rfl rfl rfl | fail "c_enter: the arguments"); (case c5 => decide); (case kB => exact locs rfl); (case c2 => exact rfl); (case c3 => exact rfl); (case c4 => exact rfl); k_whole; intro g' L' h' FG' F' N' B' X' T'; (try dsimp only); (try k_fold)))
local macro_rules | `(tactic| walk_at "execs") => `(tactic| (k_here; first | unfold fStringIO_read_b | unfold f_index_b | unfold fStringIO___check_b | unfold fshlex_punctuation_chars_b | unfold fshlex_get_token_b | unfold fshlex___next___b | unfold fshlex___iter___b | unfold fIOBase___new___b | unfold fshlex___init___b | unfold fsplit_b | unfold f_law_read_b | unfold f_law_open_b | unfold f_law_sign_b))
section
open Lean Meta Elab PySem PySem.W PyProof.Rows
set_option maxRecDepth 100000
set_option maxHeartbeats 0
set_option Elab.async false
set_option linter.unusedVariables false
namespace Mine
theorem fill : (fun (_ : Params → Frag) (_ : OpenLaw) => True) K rw1 := by k_fill; trivial
theorem allNe_of {b d : Nat} {l : List (Addr × Obj)} (h : AllLt b l) (hd : b ≤ d) : ∀ p ∈ l, p.1 ≠ d := by
  intro p hp
  induction l with
  | nil => cases hp
  | cons x r ih =>
    rcases List.mem_cons.mp hp with rfl | hp
    · exact Nat.ne_of_lt (Nat.lt_of_lt_of_le h.1 hd)
    · exact ih h.2 hp
open PySem.Builtin.Str in
theorem idx_mid (i j n : Nat) (h1 : i ≤ j) (h2 : j ≤ n) : strSliceIndices (some (i : Int)) (some (j : Int)) 1 n = (List.range (j - i)).map (i + ·) := by
  unfold strSliceIndices sliceRange
  simp only [show (1 : Int) > 0 by decide, if_true]
  have e1 : ¬ ((i : Int) < 0) := by omega
  have e2 : ¬ ((j : Int) < 0) := by omega
  simp only [e1, e2, if_false]
  have e3 : max 0 (min (i : Int) (n : Int)) = i := by omega
  have e4 : max 0 (min (j : Int) (n : Int)) = j := by omega
  rw [e3, e4]
  by_cases h : (i : Int) < j
  · rw [if_pos h]
    have : (((j : Int) - i + 1 - 1) / 1).toNat = j - i := by omega
    rw [this]
    refine List.map_congr_left fun k _ => ?_
    omega
  · rw [if_neg h]
    have : j - i = 0 := by omega
    rw [this]
    rfl
theorem filterMap_mid (l : List Nat) (i k : Nat) (h : i + k ≤ l.length) : ((List.range k).map (i + ·)).filterMap (fun j => l[j]?) = (l.drop i).take k := by
  induction k with
  | zero => simp
  | succ k ih =>
    rw [List.range_succ, List.map_append, List.filterMap_append, ih (by omega), List.take_add_one]
    simp only [List.map_cons, List.map_nil, List.filterMap_cons, List.filterMap_nil, List.getElem?_drop]
    have : i + k < l.length := by omega
    rw [List.getElem?_eq_getElem this]
    rfl
theorem slice_mid {x : Str} {l : List Nat} (hx : x.cps.toList = l) (i j : Nat) (h1 : i ≤ j) (h2 : j ≤ l.length) : Txt.slice x (some (i : Int)) (some (j : Int)) = ⟨((l.drop i).take (j - i)).toArray⟩ := by
  have hl : x.length = l.length := by
    show x.cps.size = _
    rw [← Array.length_toList, hx]
  unfold Txt.slice
  rw [idx_mid i j _ h1 (by omega)]
  have f : ((List.range (j - i)).map (i + ·)).filterMap (fun k => x.cps[k]?) = (l.drop i).take (j - i) := by
    rw [← filterMap_mid l i (j - i) (by omega)]
    congr 1
    funext k
    rw [← hx, Array.getElem?_toList]
  rw [f]
  split
  · rename_i h
    simp only [beq_self_eq_true, Bool.true_and, List.length_map, List.length_range, beq_iff_eq] at h
    have i0 : i = 0 := by omega
    have jl : j - i = l.length := by omega
    rw [i0, List.drop_zero, show j - 0 = l.length by omega, List.take_length, ← hx]
  · rfl
theorem slice_one {x : Str} {pre rest : List Nat} {c : Nat} (hx : x.cps.toList = pre ++ c :: rest) : Txt.slice x (some (pre.length : Int)) (some ((pre.length : Int) + 1)) = ⟨#[c]⟩ := by
  have := slice_mid hx pre.length (pre.length + 1) (by omega) (by rw [List.length_append, List.length_cons]; omega)
  rw [show (((pre.length + 1 : Nat)) : Int) = (pre.length : Int) + 1 by omega] at this
  rw [this]
  simp
end Mine
end
section
open Lean Meta Elab PySem PySem.W PyProof.Rows
set_option maxRecDepth 100000
set_option maxHeartbeats 0
set_option Elab.async false
set_option linter.unusedVariables false
namespace Mine
theorem fillB : (fun (_ : Params → Frag) (_ : OpenLaw) => True) K rw1 := by k_fill; trivial

abbrev ioE (P : Params) (x : Str) (τ : Nat → Tok) (p : Int) (u : Tok) : List DictEntry :=
  [⟨PyData.keyHash P "_StringIO__newline", .str "_StringIO__newline" (τ 0), .str "\n" (τ 1)⟩, ⟨PyData.keyHash P "_StringIO__buf", .str "_StringIO__buf" (τ 2), .str x (τ 3)⟩, ⟨PyData.keyHash P "_StringIO__pos", .str "_StringIO__pos" (τ 4), .int p u⟩]

section
variable {w : World} {mean : ExcName → Option Value} {mg mb : Str → Option Value} {dp un : Nat} {gd : Option (List Code)} {cn : Str} {cs : Scope} {a : Addr} {ccd : Value} {cl : List (Str × Addr)} {outer : List Env} {A₀ : Around} {base h₀ : Heap} {L : Addr} {m : Str → Option Value} {news : List (Addr × Obj)} {s : Shared} {Q E : Value → Shared → Prop}

theorem read_c {io dio : Nat} {x : Str} {τ : Nat → Tok} {u t7 : Tok} {pre post : List Nat} (B : Below A₀ base outer h₀) (F : Fr h₀ L s.heap m) (X : (K w.params).In h₀) (N : News h₀ L s.heap ((io, instObj 587 dio) :: (dio, dictOf (ioE w.params x τ (pre.length : Nat) u) 3) :: news)) (T : Top q loose mean mg mb h₀) (hk : cs.kind = .function)
    (hx : x.cps.toList = pre ++ post) (hsz : x.length ≤ 1000) (hne : ∀ p ∈ news, p.1 ≠ dio) (hio : @Ne Nat io dio)
    (hd : dp + 3 < recursionLimit) (hu : un + 20 < cLine)
    (h0 : post = [] → ∀ t h' tk', Fr h₀ L h' m → News h₀ L h' ((io, instObj 587 dio) :: (dio, dictOf (ioE w.params x τ (pre.length : Nat) u) 3) :: news) → Q (.str "" t) { s with heap := h', toks := tk' })
    (h1 : ∀ c rest, post = c :: rest → ∀ t u' h' tk', Fr h₀ L h' m → News h₀ L h' ((io, instObj 587 dio) :: (dio, dictOf (ioE w.params x τ ((pre.length : Int) + 1) u') 3) :: news) → Q (.str ⟨#[c]⟩ t) { s with heap := h', toks := tk' }) :
    wpAny (model pw w) (ktrTop dp un gd cn cs L a ccd cl outer) (call (.ref 533) [.ref io, .int 1 t7]) Q E s := by
  have hlen : x.length = pre.length + post.length := by
    show x.cps.size = _
    rw [← Array.length_toList, hx, List.length_append]
  refine wpAny_call ?_
  k_dflt (walk_at "c_enter")
  k_steps
  · refine h0 (List.length_eq_zero_iff.mp (by omega)) _ _ _ (by k_asm) (by k_asm)
  · cases post with
    | nil => exfalso; simp only [List.length_nil] at hlen; omega
    | cons c rest =>
      rw [slice_one hx]
      exact h1 c rest rfl _ _ _ _ (by k_asm) (by k_asm)
  · cases post with
    | nil => exfalso; simp only [List.length_nil] at hlen; omega
    | cons c rest =>
      have hr : ((x.length : Nat) : Int) = (pre.length : Int) + 1 := by simp only [List.length_cons] at hlen; omega
      simp only [hr] at *
      rw [slice_one hx]
      exact h1 c rest rfl _ _ _ _ (by k_asm) (by k_asm)
end
end Mine
end
section
open Lean Meta Elab PySem PySem.W PyProof.Rows
set_option maxRecDepth 100000
set_option maxHeartbeats 0
set_option Elab.async false
set_option linter.unusedVariables false
namespace Mine
theorem fillC : (fun (_ : Params → Frag) (_ : OpenLaw) => True) K rw1 := by k_fill; trivial
def whileBody : Stmt → List Stmt
  | .While _ b _ _ => b
  | _ => []
noncomputable def rt1 : Stmt := litOf (stm (whileBody (stm fshlex_read_token_b 2)) 0) (by conv => rhs; whnf)
noncomputable def rt2 : Stmt := litOf (stm (whileBody (stm fshlex_read_token_b 2)) 1) (by conv => rhs; whnf)
noncomputable def rt3 : Stmt := litOf (stm (whileBody (stm fshlex_read_token_b 2)) 2) (by conv => rhs; whnf)
noncomputable def rt4 : Stmt := litOf (stm (whileBody (stm fshlex_read_token_b 2)) 3) (by conv => rhs; whnf)
abbrev lexE (P : Params) (W : Str) (τ : Nat → Tok) (io pb fs : Nat) (stv : Value) (ln : Int) (tl : Tok) (tok : Str) (tt : Tok) : List DictEntry :=
  [⟨PyData.keyHash P "instream", .str "instream" (τ 0), .ref io⟩, ⟨PyData.keyHash P "infile", .str "infile" (τ 1), .none⟩, ⟨PyData.keyHash P "posix", .str "posix" (τ 2), .bool true⟩, ⟨PyData.keyHash P "eof", .str "eof" (τ 3), .none⟩,
   ⟨PyData.keyHash P "commenters", .str "commenters" (τ 4), .str "" (τ 24)⟩, ⟨PyData.keyHash P "wordchars", .str "wordchars" (τ 5), .str W (τ 25)⟩, ⟨PyData.keyHash P "whitespace", .str "whitespace" (τ 6), .str " \t\r\n" (τ 26)⟩,
   ⟨PyData.keyHash P "whitespace_split", .str "whitespace_split" (τ 7), .bool true⟩, ⟨PyData.keyHash P "quotes", .str "quotes" (τ 8), .str "'\"" (τ 28)⟩, ⟨PyData.keyHash P "escape", .str "escape" (τ 9), .str "\\" (τ 29)⟩,
   ⟨PyData.keyHash P "escapedquotes", .str "escapedquotes" (τ 10), .str "\"" (τ 30)⟩, ⟨PyData.keyHash P "state", .str "state" (τ 11), stv⟩, ⟨PyData.keyHash P "pushback", .str "pushback" (τ 12), .ref pb⟩, ⟨PyData.keyHash P "lineno", .str "lineno" (τ 13), .int ln tl⟩,
   ⟨PyData.keyHash P "debug", .str "debug" (τ 14), .int 0 (τ 34)⟩, ⟨PyData.keyHash P "token", .str "token" (τ 15), .str tok tt⟩, ⟨PyData.keyHash P "filestack", .str "filestack" (τ 16), .ref fs⟩, ⟨PyData.keyHash P "source", .str "source" (τ 17), .none⟩,
   ⟨PyData.keyHash P "_punctuation_chars", .str "_punctuation_chars" (τ 18), .str "" (τ 38)⟩]
local macro_rules | `(tactic| walk_at "call ref") => `(tactic| (k_here; k_dflt (refine' read_c ?rB ?rF ?rX ?rN ?rT ?rK ?rx ?rz ?rn ?ri ?rd ?ru ?_ ?_; (case rB => k_asm); (case rF => k_asm); (case rX => k_asm); (case rN => k_asm); (case rT => k_asm); (case rK => first | exact rfl | assumption); (case rx => assumption); (case rz => assumption); (case rn => assumption); (case ri => assumption); (case rd => ktr_room); (case ru => ktr_units); (all_goals first | refine fun (e9 : _ = ([] : List Nat)) t9 h9 tk9 F9 N9 => ?_ | intro c9 rest9 e9 t9 u9 h9 tk9 F9 N9); (all_goals (try dsimp only)))))
section
variable {w : World} {mean : ExcName → Option Value} {mg mb : Str → Option Value} {dp un : Nat} {gd : Option (List Code)} {outer : List Env} {A₀ : Around} {base h₀ : Heap} {L : Addr} {m : Str → Option Value} {news : List (Addr × Obj)} {s : Shared} {Q : Flow → Shared → Prop} {E : Value → Shared → Prop}

theorem pre_c {rest : List Stmt} {m₀ : Str → Option Value} {lex dlex io dio pb fs : Nat} {x W : Str} {τ σ : Nat → Tok} {u : Tok} {pre post : List Nat} {stv : Value} {ln : Int} {tl tt : Tok} {tok : Str}
    (B : Below A₀ base outer h₀) (F : Fr h₀ L s.heap (fun y => if y = "self" then some (.ref lex) else m₀ y)) (X : (K w.params).In h₀)
    (N : News h₀ L s.heap ((io, instObj 587 dio) :: (dio, dictOf (ioE w.params x σ (pre.length : Nat) u) 3) :: (lex, instObj 722 dlex) :: (dlex, dictOf (lexE w.params W τ io pb fs stv ln tl tok tt) 19) :: news)) (T : Top q loose mean mg mb h₀)
    (hx : x.cps.toList = pre ++ post) (hsz : x.length ≤ 1000) (hne : ∀ p ∈ ((lex, instObj 722 dlex) :: (dlex, dictOf (lexE w.params W τ io pb fs stv ln tl tok tt) 19) :: news), p.1 ≠ dio) (hio : @Ne Nat io dio)
    (hne2 : ∀ p ∈ news, p.1 ≠ dlex) (h12 : @LT.lt Nat _ dlex lex) (h13 : @LT.lt Nat _ lex dio) (h14 : @LT.lt Nat _ dio io)
    (hd : dp + 4 < recursionLimit) (hu : un + 30 < cLine)
    (hE : post = [] → ∀ t h' tk', Fr h₀ L h' (fun y => if y = "nextchar" then some (.str "" t) else if y = "self" then some (.ref lex) else m₀ y) →
      News h₀ L h' ((io, instObj 587 dio) :: (dio, dictOf (ioE w.params x σ (pre.length : Nat) u) 3) :: (lex, instObj 722 dlex) :: (dlex, dictOf (lexE w.params W τ io pb fs stv ln tl tok tt) 19) :: news) →
      wpAny (model pw w) (ktrTop dp un gd "shlex.read_token" fshlex_read_token_s L 690 (.ref 689) [] outer) (execs rest (envOf "shlex.read_token" fshlex_read_token_s L 690 (.ref 689))) Q E { s with heap := h', toks := tk' })
    (hC : ∀ c post', post = c :: post' → ∀ t u' ln' tl' h' tk', Fr h₀ L h' (fun y => if y = "nextchar" then some (.str ⟨#[c]⟩ t) else if y = "self" then some (.ref lex) else m₀ y) →
      News h₀ L h' ((io, instObj 587 dio) :: (dio, dictOf (ioE w.params x σ ((pre.length : Int) + 1) u') 3) :: (lex, instObj 722 dlex) :: (dlex, dictOf (lexE w.params W τ io pb fs stv ln' tl' tok tt) 19) :: news) →
      wpAny (model pw w) (ktrTop dp un gd "shlex.read_token" fshlex_read_token_s L 690 (.ref 689) [] outer) (execs rest (envOf "shlex.read_token" fshlex_read_token_s L 690 (.ref 689))) Q E { s with heap := h', toks := tk' }) :
    wpAny (model pw w) (ktrTop dp un gd "shlex.read_token" fshlex_read_token_s L 690 (.ref 689) [] outer) (execs (rt1 :: rt2 :: rt3 :: rest) (envOf "shlex.read_token" fshlex_read_token_s L 690 (.ref 689))) Q E s := by
  unfold rt1 rt2 rt3
  k_steps
  all_goals first
    | exact hE (by assumption) _ _ _ (by k_asm) (by k_asm)
    | exact hC _ _ (by assumption) _ _ _ _ _ _ (by k_asm) (by k_asm)
    | (fail)
end
end Mine
end
section
open Lean Meta Elab PySem PySem.W PyProof.Rows
set_option maxRecDepth 100000
set_option maxHeartbeats 0
set_option Elab.async false
set_option linter.unusedVariables false
namespace Mine
theorem in_ch {M : Program} {w : World} {A : Around} {E : Value → Shared → Prop} {s : Shared} {Q : Value → Shared → Prop} {c : Nat} {Y : Str} {t t' : Tok} {b : Bool} (h : Y.cps.toList.contains c = b) (hQ : Q (.bool b) s) :
    wpAny (model M w) A (compareOp .In (.str ⟨#[c]⟩ t) (.str Y t')) Q E s := by
  refine SB.contains ?_
  have e : Txt.contains Y ⟨#[c]⟩ = b := by
    show (!(Builtin.Str.occurrences Y ⟨#[c]⟩ 0 Y.length 1).isEmpty) = b
    rw [StrLaws.found_one, ← h, Bool.eq_iff_iff]
    simp
  rw [e]; exact hQ
theorem notin_ch {M : Program} {w : World} {A : Around} {E : Value → Shared → Prop} {s : Shared} {Q : Value → Shared → Prop} {c : Nat} {Y : Str} {t t' : Tok} {b : Bool} (h : Y.cps.toList.contains c = b) (hQ : Q (.bool (!b)) s) :
    wpAny (model M w) A (compareOp .NotIn (.str ⟨#[c]⟩ t) (.str Y t')) Q E s := by
  refine SB.notContains ?_
  have e : Txt.contains Y ⟨#[c]⟩ = b := by
    show (!(Builtin.Str.occurrences Y ⟨#[c]⟩ 0 Y.length 1).isEmpty) = b
    rw [StrLaws.found_one, ← h, Bool.eq_iff_iff]
    simp
  rw [e]; exact hQ
theorem in_b {M : Program} {w : World} {A : Around} {E : Value → Shared → Prop} {s : Shared} {Q : Value → Shared → Prop} {X Y : Str} {t t' : Tok} {b : Bool} (h : Txt.contains Y X = b) (hQ : Q (.bool b) s) :
    wpAny (model M w) A (compareOp .In (.str X t) (.str Y t')) Q E s := by
  refine SB.contains ?_
  rw [h]; exact hQ
theorem eq_b {M : Program} {w : World} {A : Around} {E : Value → Shared → Prop} {s : Shared} {Q : Value → Shared → Prop} {X Y : Str} {t t' : Tok} {b : Bool} (h : (X == Y) = b) (hQ : Q (.bool b) s) :
    wpAny (model M w) A (compareOp .Eq (.str X t) (.str Y t')) Q E s := by
  refine eq_str ?_
  rw [h]; exact hQ
theorem truthy_b {M : Program} {w : World} {A : Around} {E : Value → Shared → Prop} {s : Shared} {Q : Bool → Shared → Prop} {x : Str} {t : Tok} {b : Bool} (e : ((x.length : Int) != 0) = b) (hl : x.length ≤ 1000000) (h : ∀ k, Q b { s with toks := k }) :
    wpAny (model M w) A (truthy (.str x t)) Q E s := PySem.P.truthy_str (by omega) (by rw [e]; exact h _)
theorem truthy_ch {M : Program} {w : World} {A : Around} {E : Value → Shared → Prop} {s : Shared} {Q : Bool → Shared → Prop} {c : Nat} {t : Tok} (h : ∀ k, Q true { s with toks := k }) :
    wpAny (model M w) A (truthy (.str ⟨#[c]⟩ t)) Q E s := truthy_b (by simp [Str.length]) (by simp [Str.length]) h
theorem truthy_nil {M : Program} {w : World} {A : Around} {E : Value → Shared → Prop} {s : Shared} {Q : Bool → Shared → Prop} {t : Tok} (h : ∀ k, Q false { s with toks := k }) :
    wpAny (model M w) A (truthy (.str (Str.ofString "") t)) Q E s := truthy_b (by decide +kernel) (by decide +kernel) h
theorem news_tail {h₀ h : Heap} {L : Addr} {x : Addr × Obj} {l : List (Addr × Obj)} (N : News h₀ L h (x :: l)) : News h₀ L h l := fun p hp => N p (List.mem_cons_of_mem _ hp)
theorem truthy_p {M : Program} {w : World} {A : Around} {E : Value → Shared → Prop} {s : Shared} {Q : Bool → Shared → Prop} {x : Str} {t : Tok} (e : 0 < x.length) (hl : x.length ≤ 1000) (h : ∀ k, Q true { s with toks := k }) :
    wpAny (model M w) A (truthy (.str x t)) Q E s := truthy_b (by simp; omega) (by omega) h
theorem len0 {x : Str} (h : x.length = 0) : x = Str.ofString "" := by
  obtain ⟨⟨l⟩⟩ := x
  have : l = [] := List.length_eq_zero_iff.mp h
  subst this
  decide +kernel
theorem in_nil {M : Program} {w : World} {A : Around} {E : Value → Shared → Prop} {s : Shared} {Q : Value → Shared → Prop} {c : Nat} {t t' : Tok} (hQ : Q (.bool false) s) :
    wpAny (model M w) A (compareOp .In (.str ⟨#[c]⟩ t) (.str (Str.ofString "") t')) Q E s := in_ch (b := false) rfl hQ
theorem notin_nil {M : Program} {w : World} {A : Around} {E : Value → Shared → Prop} {s : Shared} {Q : Value → Shared → Prop} {c : Nat} {t t' : Tok} (hQ : Q (.bool true) s) :
    wpAny (model M w) A (compareOp .NotIn (.str ⟨#[c]⟩ t) (.str (Str.ofString "") t')) Q E s := notin_ch (b := false) rfl hQ
end Mine
end
section
open Lean Meta Elab PySem PySem.W PyProof.Rows Mine
local macro_rules | `(tactic| walk_at "compareOp In str str") => `(tactic| (k_here; (first | with_reducible refine in_ch (by with_reducible assumption) ?_ | with_reducible refine in_nil ?_ | with_reducible refine in_b (b := false) (by decide +kernel) ?_ | with_reducible refine in_b (b := true) (by decide +kernel) ?_)))
local macro_rules | `(tactic| walk_at "compareOp NotIn str str") => `(tactic| (k_here; (first | with_reducible refine notin_ch (by with_reducible assumption) ?_ | with_reducible refine notin_nil ?_)))
local macro_rules | `(tactic| walk_at "compareOp Eq str str") => `(tactic| (k_here; (first | with_reducible refine eq_b (by with_reducible assumption) ?_ | with_reducible refine eq_b (b := false) (by decide +kernel) ?_ | with_reducible refine eq_b (b := true) (by decide +kernel) ?_)))
local macro_rules | `(tactic| walk_at "truthy str") => `(tactic| (k_here; (first | with_reducible refine truthy_ch ?_ | with_reducible refine truthy_nil ?_ | with_reducible refine truthy_p (by with_reducible assumption) (by with_reducible assumption) ?_); intro k9))
section
open Lean Meta Elab PySem PySem.W PyProof.Rows
set_option maxRecDepth 100000
set_option maxHeartbeats 0
set_option Elab.async false
set_option linter.unusedVariables false
namespace Mine
theorem fillD : (fun (_ : Params → Frag) (_ : OpenLaw) => True) K rw1 := by k_fill; trivial
abbrev fm (lex : Nat) (nc : Value) (qd : Bool) (te : Tok) (m₀ : Str → Option Value) : Str → Option Value := fun y => if y = "nextchar" then some nc else if y = "self" then some (.ref lex) else if y = "quoted" then some (.bool qd) else if y = "escapedstate" then some (.str " " te) else m₀ y
abbrev ws4 : Str := Str.ofString " \t\r\n"
abbrev qs2 : Str := Str.ofString "'\""
abbrev led (P : Params) (W x : Str) (τ σ : Nat → Tok) (lex dlex io dio pb fs : Nat) (p : Int) (u : Tok) (stv : Value) (ln : Int) (tl : Tok) (tok : Str) (tt : Tok) (news : List (Addr × Obj)) : List (Addr × Obj) :=
  (io, instObj 587 dio) :: (dio, dictOf (ioE P x σ p u) 3) :: (lex, instObj 722 dlex) :: (dlex, dictOf (lexE P W τ io pb fs stv ln tl tok tt) 19) :: news
noncomputable abbrev envT (L : Addr) : Env := envOf "shlex.read_token" fshlex_read_token_s L 690 (.ref 689)
noncomputable abbrev arT (dp un : Nat) (gd : Option (List Code)) (L : Addr) (outer : List Env) : Around := ktrTop dp un gd "shlex.read_token" fshlex_read_token_s L 690 (.ref 689) [] outer
section
variable {w : World} {mean : ExcName → Option Value} {mg mb : Str → Option Value} {dp un : Nat} {gd : Option (List Code)} {outer : List Env} {A₀ : Around} {base h₀ : Heap} {L : Addr} {news : List (Addr × Obj)} {s : Shared} {Q : Flow → Shared → Prop} {E : Value → Shared → Prop}
  {m₀ : Str → Option Value} {lex dlex io dio pb fs : Nat} {x W tok : Str} {τ σ : Nat → Tok} {u tl tt t ts te : Tok} {ln p : Int} {qd : Bool} {c d : Nat}

theorem ch_a_other
    (B : Below A₀ base outer h₀) (F : Fr h₀ L s.heap (fm lex (.str ⟨#[c]⟩ t) qd te m₀)) (X : (K w.params).In h₀)
    (N : News h₀ L s.heap (led w.params W x τ σ lex dlex io dio pb fs p u (.str "a" ts) ln tl tok tt news)) (T : Top q loose mean mg mb h₀)
    (hne2 : ∀ p ∈ news, p.1 ≠ dlex) (h12 : @LT.lt Nat _ dlex lex) (h13 : @LT.lt Nat _ lex dio) (h14 : @LT.lt Nat _ dio io) (htok : tok.length ≤ 1000)
    (hd : dp + 4 < recursionLimit) (hu : un + 30 < cLine)
    {wc : Bool} (c1 : ws4.cps.toList.contains c = false) (c2 : qs2.cps.toList.contains c = false) (c3 : (Str.ofString "\\").cps.toList.contains c = false) (c4 : W.cps.toList.contains c = wc)
    (hQ : ∀ m' (t' : Tok) h' tk', m' "self" = some (.ref lex) → m' "quoted" = some (.bool qd) → m' "escapedstate" = some (.str " " te) → Fr h₀ L h' m' → News h₀ L h' (led w.params W x τ σ lex dlex io dio pb fs p u (.str "a" ts) ln tl (tok ++ ⟨#[c]⟩) t' news) → Q .next { s with heap := h', toks := tk' }) :
    wpAny (model pw w) (arT dp un gd L outer) (execs [rt4] (envT L)) Q E s := by
  all_goals unfold rt4
  k_steps
  all_goals first
    | exact hQ _ _ _ _ rfl rfl rfl (by k_asm) (by first | k_asm | exact news_tail (by k_asm))
    | (fail "END")

theorem ch_a_quote
    (B : Below A₀ base outer h₀) (F : Fr h₀ L s.heap (fm lex (.str ⟨#[c]⟩ t) qd te m₀)) (X : (K w.params).In h₀)
    (N : News h₀ L s.heap (led w.params W x τ σ lex dlex io dio pb fs p u (.str "a" ts) ln tl tok tt news)) (T : Top q loose mean mg mb h₀)
    (hne2 : ∀ p ∈ news, p.1 ≠ dlex) (h12 : @LT.lt Nat _ dlex lex) (h13 : @LT.lt Nat _ lex dio) (h14 : @LT.lt Nat _ dio io) (htok : tok.length ≤ 1000)
    (hd : dp + 4 < recursionLimit) (hu : un + 30 < cLine)
    (c1 : ws4.cps.toList.contains c = false) (c2 : qs2.cps.toList.contains c = true) (c3 : (Str.ofString "\\").cps.toList.contains c = false) (c4 : W.cps.toList.contains c = false)
    (hQ : ∀ m' (t' : Tok) h' tk', m' "self" = some (.ref lex) → m' "quoted" = some (.bool qd) → m' "escapedstate" = some (.str " " te) → Fr h₀ L h' m' → News h₀ L h' (led w.params W x τ σ lex dlex io dio pb fs p u (.str ⟨#[c]⟩ t) ln tl tok tt news) → Q .next { s with heap := h', toks := tk' }) :
    wpAny (model pw w) (arT dp un gd L outer) (execs [rt4] (envT L)) Q E s := by
  all_goals unfold rt4
  k_steps
  all_goals first
    | exact hQ _ 0 _ _ rfl rfl rfl (by k_asm) (by first | k_asm | exact news_tail (by k_asm))
    | (fail "END")

theorem ch_a_ws
    (B : Below A₀ base outer h₀) (F : Fr h₀ L s.heap (fm lex (.str ⟨#[c]⟩ t) qd te m₀)) (X : (K w.params).In h₀)
    (N : News h₀ L s.heap (led w.params W x τ σ lex dlex io dio pb fs p u (.str "a" ts) ln tl tok tt news)) (T : Top q loose mean mg mb h₀)
    (hne2 : ∀ p ∈ news, p.1 ≠ dlex) (h12 : @LT.lt Nat _ dlex lex) (h13 : @LT.lt Nat _ lex dio) (h14 : @LT.lt Nat _ dio io) (htok : tok.length ≤ 1000)
    (hd : dp + 4 < recursionLimit) (hu : un + 30 < cLine)
    (c1 : ws4.cps.toList.contains c = true) (hq : tok.length ≠ 0 ∨ qd = true)
    (hQ : ∀ m' (t' : Tok) h' tk', m' "self" = some (.ref lex) → m' "quoted" = some (.bool qd) → m' "escapedstate" = some (.str " " te) → Fr h₀ L h' m' → News h₀ L h' (led w.params W x τ σ lex dlex io dio pb fs p u (.str " " t') ln tl tok tt news) → Q .brk { s with heap := h', toks := tk' }) :
    wpAny (model pw w) (arT dp un gd L outer) (execs [rt4] (envT L)) Q E s := by
  have hb : 0 < tok.length ∨ tok = Str.ofString "" ∧ qd = true := by
    by_cases h : tok.length = 0
    · exact .inr ⟨len0 h, hq.resolve_left (fun n => n h)⟩
    · exact .inl (by omega)
  clear hq
  rcases hb with hb | ⟨rfl, rfl⟩
  all_goals unfold rt4
  k_steps
  all_goals first
    | exact hQ _ _ _ _ rfl rfl rfl (by k_asm) (by first | k_asm | exact news_tail (by k_asm))
    | (fail "END")

theorem ch_sp_ws
    (B : Below A₀ base outer h₀) (F : Fr h₀ L s.heap (fm lex (.str ⟨#[c]⟩ t) qd te m₀)) (X : (K w.params).In h₀)
    (N : News h₀ L s.heap (led w.params W x τ σ lex dlex io dio pb fs p u (.str " " ts) ln tl tok tt news)) (T : Top q loose mean mg mb h₀)
    (hne2 : ∀ p ∈ news, p.1 ≠ dlex) (h12 : @LT.lt Nat _ dlex lex) (h13 : @LT.lt Nat _ lex dio) (h14 : @LT.lt Nat _ dio io) (htok : tok.length ≤ 1000)
    (hd : dp + 4 < recursionLimit) (hu : un + 30 < cLine)
    (c1 : ws4.cps.toList.contains c = true) (hb : tok = Str.ofString "") (hq : qd = false)
    (hQ : ∀ m' (t' : Tok) h' tk', m' "self" = some (.ref lex) → m' "quoted" = some (.bool false) → m' "escapedstate" = some (.str " " te) → Fr h₀ L h' m' → News h₀ L h' (led w.params W x τ σ lex dlex io dio pb fs p u (.str " " ts) ln tl tok tt news) → Q .cont { s with heap := h', toks := tk' }) :
    wpAny (model pw w) (arT dp un gd L outer) (execs [rt4] (envT L)) Q E s := by
  subst hq hb
  all_goals unfold rt4
  k_steps
  all_goals first
    | exact hQ _ 0 _ _ rfl rfl rfl (by k_asm) (by first | k_asm | exact news_tail (by k_asm))
    | (fail "END")

theorem ch_sp_quote
    (B : Below A₀ base outer h₀) (F : Fr h₀ L s.heap (fm lex (.str ⟨#[c]⟩ t) qd te m₀)) (X : (K w.params).In h₀)
    (N : News h₀ L s.heap (led w.params W x τ σ lex dlex io dio pb fs p u (.str " " ts) ln tl tok tt news)) (T : Top q loose mean mg mb h₀)
    (hne2 : ∀ p ∈ news, p.1 ≠ dlex) (h12 : @LT.lt Nat _ dlex lex) (h13 : @LT.lt Nat _ lex dio) (h14 : @LT.lt Nat _ dio io) (htok : tok.length ≤ 1000)
    (hd : dp + 4 < recursionLimit) (hu : un + 30 < cLine)
    (c1 : ws4.cps.toList.contains c = false) (c2 : qs2.cps.toList.contains c = true) (c3 : (Str.ofString "\\").cps.toList.contains c = false) (c4 : W.cps.toList.contains c = false)
    (hQ : ∀ m' (t' : Tok) h' tk', m' "self" = some (.ref lex) → m' "quoted" = some (.bool qd) → m' "escapedstate" = some (.str " " te) → Fr h₀ L h' m' → News h₀ L h' (led w.params W x τ σ lex dlex io dio pb fs p u (.str ⟨#[c]⟩ t) ln tl tok tt news) → Q .next { s with heap := h', toks := tk' }) :
    wpAny (model pw w) (arT dp un gd L outer) (execs [rt4] (envT L)) Q E s := by
  all_goals unfold rt4
  k_steps
  all_goals first
    | exact hQ _ 0 _ _ rfl rfl rfl (by k_asm) (by first | k_asm | exact news_tail (by k_asm))
    | (fail "END")

theorem ch_sp_other
    (B : Below A₀ base outer h₀) (F : Fr h₀ L s.heap (fm lex (.str ⟨#[c]⟩ t) qd te m₀)) (X : (K w.params).In h₀)
    (N : News h₀ L s.heap (led w.params W x τ σ lex dlex io dio pb fs p u (.str " " ts) ln tl tok tt news)) (T : Top q loose mean mg mb h₀)
    (hne2 : ∀ p ∈ news, p.1 ≠ dlex) (h12 : @LT.lt Nat _ dlex lex) (h13 : @LT.lt Nat _ lex dio) (h14 : @LT.lt Nat _ dio io) (htok : tok.length ≤ 1000)
    (hd : dp + 4 < recursionLimit) (hu : un + 30 < cLine)
    {wc : Bool} (c1 : ws4.cps.toList.contains c = false) (c2 : qs2.cps.toList.contains c = false) (c3 : (Str.ofString "\\").cps.toList.contains c = false) (c4 : W.cps.toList.contains c = wc)
    (hQ : ∀ m' (t' : Tok) h' tk', m' "self" = some (.ref lex) → m' "quoted" = some (.bool qd) → m' "escapedstate" = some (.str " " te) → Fr h₀ L h' m' → News h₀ L h' (led w.params W x τ σ lex dlex io dio pb fs p u (.str "a" t') ln tl ⟨#[c]⟩ t news) → Q .next { s with heap := h', toks := tk' }) :
    wpAny (model pw w) (arT dp un gd L outer) (execs [rt4] (envT L)) Q E s := by
  all_goals unfold rt4
  k_steps
  all_goals first
    | exact hQ _ _ _ _ rfl rfl rfl (by k_asm) (by first | k_asm | exact news_tail (by k_asm))
    | (fail "END")

theorem ch_q_same
    (B : Below A₀ base outer h₀) (F : Fr h₀ L s.heap (fm lex (.str ⟨#[c]⟩ t) qd te m₀)) (X : (K w.params).In h₀)
    (N : News h₀ L s.heap (led w.params W x τ σ lex dlex io dio pb fs p u (.str ⟨#[d]⟩ ts) ln tl tok tt news)) (T : Top q loose mean mg mb h₀)
    (hne2 : ∀ p ∈ news, p.1 ≠ dlex) (h12 : @LT.lt Nat _ dlex lex) (h13 : @LT.lt Nat _ lex dio) (h14 : @LT.lt Nat _ dio io) (htok : tok.length ≤ 1000)
    (hd : dp + 4 < recursionLimit) (hu : un + 30 < cLine)
    (d1 : ((⟨#[d]⟩ : Str) == Str.ofString " ") = false) (d2 : qs2.cps.toList.contains d = true) (c1 : ((⟨#[c]⟩ : Str) == ⟨#[d]⟩) = true)
    (hQ : ∀ m' (t' : Tok) h' tk', m' "self" = some (.ref lex) → m' "quoted" = some (.bool true) → m' "escapedstate" = some (.str " " te) → Fr h₀ L h' m' → News h₀ L h' (led w.params W x τ σ lex dlex io dio pb fs p u (.str "a" t') ln tl tok tt news) → Q .next { s with heap := h', toks := tk' }) :
    wpAny (model pw w) (arT dp un gd L outer) (execs [rt4] (envT L)) Q E s := by
  all_goals unfold rt4
  k_steps
  all_goals first
    | exact hQ _ _ _ _ rfl rfl rfl (by k_asm) (by first | k_asm | exact news_tail (by k_asm))
    | (fail "END")

theorem ch_q_other
    (B : Below A₀ base outer h₀) (F : Fr h₀ L s.heap (fm lex (.str ⟨#[c]⟩ t) qd te m₀)) (X : (K w.params).In h₀)
    (N : News h₀ L s.heap (led w.params W x τ σ lex dlex io dio pb fs p u (.str ⟨#[d]⟩ ts) ln tl tok tt news)) (T : Top q loose mean mg mb h₀)
    (hne2 : ∀ p ∈ news, p.1 ≠ dlex) (h12 : @LT.lt Nat _ dlex lex) (h13 : @LT.lt Nat _ lex dio) (h14 : @LT.lt Nat _ dio io) (htok : tok.length ≤ 1000)
    (hd : dp + 4 < recursionLimit) (hu : un + 30 < cLine)
    (d1 : ((⟨#[d]⟩ : Str) == Str.ofString " ") = false) (d2 : qs2.cps.toList.contains d = true) (c1 : ((⟨#[c]⟩ : Str) == ⟨#[d]⟩) = false) (c3 : (Str.ofString "\\").cps.toList.contains c = false)
    (hQ : ∀ m' (t' : Tok) h' tk', m' "self" = some (.ref lex) → m' "quoted" = some (.bool true) → m' "escapedstate" = some (.str " " te) → Fr h₀ L h' m' → News h₀ L h' (led w.params W x τ σ lex dlex io dio pb fs p u (.str ⟨#[d]⟩ ts) ln tl (tok ++ ⟨#[c]⟩) t' news) → Q .next { s with heap := h', toks := tk' }) :
    wpAny (model pw w) (arT dp un gd L outer) (execs [rt4] (envT L)) Q E s := by
  all_goals unfold rt4
  k_steps
  all_goals first
    | exact hQ _ _ _ _ rfl rfl rfl (by k_asm) (by first | k_asm | exact news_tail (by k_asm))
    | (fail "END")

theorem ch_sp_eof
    (B : Below A₀ base outer h₀) (F : Fr h₀ L s.heap (fm lex (.str "" t) qd te m₀)) (X : (K w.params).In h₀)
    (N : News h₀ L s.heap (led w.params W x τ σ lex dlex io dio pb fs p u (.str " " ts) ln tl tok tt news)) (T : Top q loose mean mg mb h₀)
    (hne2 : ∀ p ∈ news, p.1 ≠ dlex) (h12 : @LT.lt Nat _ dlex lex) (h13 : @LT.lt Nat _ lex dio) (h14 : @LT.lt Nat _ dio io) (htok : tok.length ≤ 1000)
    (hd : dp + 4 < recursionLimit) (hu : un + 30 < cLine)
    
    (hQ : ∀ m' (t' : Tok) h' tk', m' "self" = some (.ref lex) → m' "quoted" = some (.bool qd) → m' "escapedstate" = some (.str " " te) → Fr h₀ L h' m' → News h₀ L h' (led w.params W x τ σ lex dlex io dio pb fs p u .none ln tl tok tt news) → Q .brk { s with heap := h', toks := tk' }) :
    wpAny (model pw w) (arT dp un gd L outer) (execs [rt4] (envT L)) Q E s := by
  all_goals unfold rt4
  k_steps
  all_goals first
    | exact hQ _ 0 _ _ rfl rfl rfl (by k_asm) (by first | k_asm | exact news_tail (by k_asm))
    | (fail "END")

theorem ch_a_eof
    (B : Below A₀ base outer h₀) (F : Fr h₀ L s.heap (fm lex (.str "" t) qd te m₀)) (X : (K w.params).In h₀)
    (N : News h₀ L s.heap (led w.params W x τ σ lex dlex io dio pb fs p u (.str "a" ts) ln tl tok tt news)) (T : Top q loose mean mg mb h₀)
    (hne2 : ∀ p ∈ news, p.1 ≠ dlex) (h12 : @LT.lt Nat _ dlex lex) (h13 : @LT.lt Nat _ lex dio) (h14 : @LT.lt Nat _ dio io) (htok : tok.length ≤ 1000)
    (hd : dp + 4 < recursionLimit) (hu : un + 30 < cLine)
    
    (hQ : ∀ m' (t' : Tok) h' tk', m' "self" = some (.ref lex) → m' "quoted" = some (.bool qd) → m' "escapedstate" = some (.str " " te) → Fr h₀ L h' m' → News h₀ L h' (led w.params W x τ σ lex dlex io dio pb fs p u .none ln tl tok tt news) → Q .brk { s with heap := h', toks := tk' }) :
    wpAny (model pw w) (arT dp un gd L outer) (execs [rt4] (envT L)) Q E s := by
  all_goals unfold rt4
  k_steps
  all_goals first
    | exact hQ _ 0 _ _ rfl rfl rfl (by k_asm) (by first | k_asm | exact news_tail (by k_asm))
    | (fail "END")

theorem ch_none
    (B : Below A₀ base outer h₀) (F : Fr h₀ L s.heap (fm lex (.str "" t) qd te m₀)) (X : (K w.params).In h₀)
    (N : News h₀ L s.heap (led w.params W x τ σ lex dlex io dio pb fs p u .none ln tl tok tt news)) (T : Top q loose mean mg mb h₀)
    (hne2 : ∀ p ∈ news, p.1 ≠ dlex) (h12 : @LT.lt Nat _ dlex lex) (h13 : @LT.lt Nat _ lex dio) (h14 : @LT.lt Nat _ dio io) (htok : tok.length ≤ 1000)
    (hd : dp + 4 < recursionLimit) (hu : un + 30 < cLine)
    
    (hQ : ∀ m' (t' : Tok) h' tk', m' "self" = some (.ref lex) → m' "quoted" = some (.bool qd) → m' "escapedstate" = some (.str " " te) → Fr h₀ L h' m' → News h₀ L h' (led w.params W x τ σ lex dlex io dio pb fs p u .none ln tl "" t' news) → Q .brk { s with heap := h', toks := tk' }) :
    wpAny (model pw w) (arT dp un gd L outer) (execs [rt4] (envT L)) Q E s := by
  all_goals unfold rt4
  k_steps
  all_goals first
    | exact hQ _ _ _ _ rfl rfl rfl (by k_asm) (by first | k_asm | exact news_tail (by k_asm))
    | (fail "END")
end
end Mine
end
section
open Lean Meta Elab PySem PySem.W PyProof.Rows
set_option maxRecDepth 100000
set_option maxHeartbeats 0
set_option Elab.async false
set_option linter.unusedVariables false
namespace Mine
theorem fillE : (fun (_ : Params → Frag) (_ : OpenLaw) => True) K rw1 := by k_fill; trivial
section
variable {w : World} {mean : ExcName → Option Value} {mg mb : Str → Option Value} {dp un : Nat} {gd : Option (List Code)} {outer : List Env} {A₀ : Around} {base h₀ : Heap} {L : Addr} {news : List (Addr × Obj)} {s : Shared} {Q : Flow → Shared → Prop} {E : Value → Shared → Prop}
  {m₀ : Str → Option Value} {lex dlex io dio pb fs : Nat} {x W tok : Str} {τ σ : Nat → Tok} {u tl tt t ts te : Tok} {ln p : Int} {qd : Bool} {c d : Nat}
theorem ch_q_eof
    (B : Below A₀ base outer h₀) (F : Fr h₀ L s.heap (fm lex (.str "" t) qd te m₀)) (X : (K w.params).In h₀)
    (N : News h₀ L s.heap (led w.params W x τ σ lex dlex io dio pb fs p u (.str ⟨#[d]⟩ ts) ln tl tok tt news)) (T : Top q loose mean mg mb h₀)
    (hne2 : ∀ p ∈ news, p.1 ≠ dlex) (h12 : @LT.lt Nat _ dlex lex) (h13 : @LT.lt Nat _ lex dio) (h14 : @LT.lt Nat _ dio io) (htok : tok.length ≤ 1000)
    (hd : dp + 4 < recursionLimit) (hu : un + 30 < cLine)
    (d1 : ((⟨#[d]⟩ : Str) == Str.ofString " ") = false) (d2 : qs2.cps.toList.contains d = true)
    (hR : ∀ m' h₁ h' e tk', Fr h₀ L h₁ m' → News h₀ L h₁ (led w.params W x τ σ lex dlex io dio pb fs p u (.str ⟨#[d]⟩ ts) ln tl tok tt news) → Heap.NewExc h₁ h' e "ValueError" → E (.ref e) { s with heap := h', toks := tk' }) :
    wpAny (model pw w) (arT dp un gd L outer) (execs [rt4] (envT L)) Q E s := by
  unfold rt4
  k_steps
  all_goals exact hR _ _ _ _ _ (by k_asm) (by k_asm) (by assumption)
end
inductive St where
  | sp | wd | dead | q (d : Nat)
def stV : St → Tok → Value
  | .sp, t => .str " " t
  | .wd, t => .str "a" t
  | .dead, _ => .none
  | .q d, t => .str ⟨#[d]⟩ t
inductive Res where
  | fin (tok : List Nat) (qd : Bool) (st : St) (post : List Nat)
  | err
def isWs (c : Nat) : Bool := ws4.cps.toList.contains c
def isQt (c : Nat) : Bool := qs2.cps.toList.contains c
def lexRun : List Nat → St → List Nat → Bool → Res
  | [], .sp, tok, qd => .fin tok qd .dead []
  | [], .wd, tok, qd => .fin tok qd .dead []
  | [], .dead, _, qd => .fin [] qd .dead []
  | [], .q _, _, _ => .err
  | c :: r, .sp, tok, qd => if isWs c then lexRun r .sp tok qd else if isQt c then lexRun r (.q c) tok qd else lexRun r .wd [c] qd
  | c :: r, .wd, tok, qd => if isWs c then .fin tok qd .sp r else if isQt c then lexRun r (.q c) tok qd else lexRun r .wd (tok ++ [c]) qd
  | _ :: _, .dead, _, _ => .err
  | c :: r, .q d, tok, _ => if c == d then lexRun r .wd tok true else lexRun r (.q d) (tok ++ [c]) true
def inv : St → List Nat → Bool → List Nat → Prop
  | .sp, tok, qd, _ => tok = [] ∧ qd = false
  | .wd, tok, qd, _ => tok ≠ [] ∨ qd = true
  | .dead, _, _, post => post = []
  | .q d, _, _, _ => isQt d = true
theorem qt_cases {c : Nat} (h : isQt c = true) : c = 39 ∨ c = 34 := by
  have e : qs2.cps.toList = [39, 34] := by decide +kernel
  unfold isQt at h
  rw [e] at h
  simp at h
  omega
theorem qt_ws {c : Nat} (h : isQt c = true) : isWs c = false := by
  rcases qt_cases h with rfl | rfl <;> decide +kernel
theorem qt_bs {c : Nat} (h : isQt c = true) : (Str.ofString "\\").cps.toList.contains c = false := by
  rcases qt_cases h with rfl | rfl <;> decide +kernel
theorem qt_sp {c : Nat} (h : isQt c = true) : ((⟨#[c]⟩ : Str) == Str.ofString " ") = false := by
  rcases qt_cases h with rfl | rfl <;> decide +kernel
theorem snoc (l : List Nat) (c : Nat) : (⟨l.toArray⟩ : Str) ++ ⟨#[c]⟩ = ⟨(l ++ [c]).toArray⟩ := by
  show Str.mk _ = _
  simp
theorem one_beq (c d : Nat) : ((⟨#[c]⟩ : Str) == ⟨#[d]⟩) = (c == d) := by
  rw [Bool.eq_iff_iff]; simp
structure Sg where
  st : St
  tok : List Nat
  qd : Bool
  pre : List Nat
  post : List Nat
  u : Tok
  tl : Tok
  tt : Tok
  ts : Tok
  te : Tok
  ln : Int
abbrev Sg.led (g : Sg) (P : Params) (W x : Str) (τ σ : Nat → Tok) (lex dlex io dio pb fs : Nat) (news : List (Addr × Obj)) : List (Addr × Obj) :=
  Mine.led P W x τ σ lex dlex io dio pb fs (g.pre.length : Nat) g.u (stV g.st g.ts) g.ln g.tl ⟨g.tok.toArray⟩ g.tt news
structure Good (g : Sg) (x : Str) (r : Res) : Prop where
  text : x.cps.toList = g.pre ++ g.post
  short : g.tok.length ≤ g.pre.length
  same : lexRun g.post g.st g.tok g.qd = r
  inv : inv g.st g.tok g.qd g.post
end Mine
end
section
open Lean Meta Elab PySem PySem.W PyProof.Rows
set_option maxRecDepth 100000
set_option maxHeartbeats 0
set_option Elab.async false
set_option linter.unusedVariables false
namespace Mine
theorem fillF : (fun (_ : Params → Frag) (_ : OpenLaw) => True) K rw1 := by k_fill; trivial
noncomputable def testT : PySem.Expr := litOf (match stm fshlex_read_token_b 2 with | .While t _ _ _ => t | _ => .Name "x" default) (by conv => rhs; whnf)
noncomputable def posT : Pos := litOf (match stm fshlex_read_token_b 2 with | .While _ _ _ p => p | _ => default) (by conv => rhs; whnf)

theorem nilE : (⟨([] : List Nat).toArray⟩ : Str) = Str.ofString "" := by decide +kernel
theorem fr_norm {h₀ h : Heap} {L : Addr} {m : Str → Option Value} {lex : Nat} {qd : Bool} {te : Tok} (F : Fr h₀ L h m) (a : m "self" = some (.ref lex)) (b : m "quoted" = some (.bool qd)) (c : m "escapedstate" = some (.str " " te)) :
    Fr h₀ L h (fun (y : Str) => if y = ("self" : Str) then some (Value.ref lex) else (fun (y : Str) => if y = ("quoted" : Str) then some (Value.bool qd) else if y = ("escapedstate" : Str) then some (Value.str (" " : Str) te) else m y) y) := by
  have e : (fun (y : Str) => if y = ("self" : Str) then some (Value.ref lex) else (fun (y : Str) => if y = ("quoted" : Str) then some (Value.bool qd) else if y = ("escapedstate" : Str) then some (Value.str (" " : Str) te) else m y) y) = m := by
    funext y
    dsimp only
    split
    · rename_i h; rw [h, a]
    · split
      · rename_i h; rw [h, b]
      · split
        · rename_i h; rw [h, c]
        · rfl
  rw [e]; exact F
section
variable {w : World} {mean : ExcName → Option Value} {mg mb : Str → Option Value} {dp un : Nat} {gd : Option (List Code)} {outer : List Env} {A₀ : Around} {base h₀ : Heap} {L : Addr} {news : List (Addr × Obj)} {s : Shared} {Q : Flow → Shared → Prop} {E : Value → Shared → Prop}
  {m₀ : Str → Option Value} {lex dlex io dio pb fs : Nat} {x W : Str} {τ σ : Nat → Tok}
theorem turn_c {g : Sg} {m : Str → Option Value} {r : Res}
    (B : Below A₀ base outer h₀) (F : Fr h₀ L s.heap m) (X : (K w.params).In h₀) (N : News h₀ L s.heap (g.led w.params W x τ σ lex dlex io dio pb fs news)) (T : Top q loose mean mg mb h₀)
    (m1 : m "self" = some (.ref lex)) (m2 : m "quoted" = some (.bool g.qd)) (m3 : m "escapedstate" = some (.str " " g.te)) (G : Good g x r)
    (hbs : ∀ c ∈ x.cps.toList, (Str.ofString "\\").cps.toList.contains c = false) (hW : ∀ c, isQt c = true → W.cps.toList.contains c = false) (hsz : x.length ≤ 1000)
    (hn1 : ∀ p ∈ news, p.1 ≠ dio) (hne2 : ∀ p ∈ news, p.1 ≠ dlex) (h12 : @LT.lt Nat _ dlex lex) (h13 : @LT.lt Nat _ lex dio) (h14 : @LT.lt Nat _ dio io)
    (hd : dp + 4 < recursionLimit) (hu : un + 30 < cLine)
    (hnext : ∀ (g' : Sg) m' h' tk' f, f = .next ∨ f = .cont → m' "self" = some (.ref lex) → m' "quoted" = some (.bool g'.qd) → m' "escapedstate" = some (.str " " g'.te) → Fr h₀ L h' m' → News h₀ L h' (g'.led w.params W x τ σ lex dlex io dio pb fs news) → g'.post.length < g.post.length → Good g' x r → Q f { s with heap := h', toks := tk' })
    (hfin : ∀ (g' : Sg) m' h' tk', m' "self" = some (.ref lex) → m' "quoted" = some (.bool g'.qd) → Fr h₀ L h' m' → News h₀ L h' (g'.led w.params W x τ σ lex dlex io dio pb fs news) → x.cps.toList = g'.pre ++ g'.post → g'.tok.length ≤ x.length → r = .fin g'.tok g'.qd g'.st g'.post → Q .brk { s with heap := h', toks := tk' })
    (herr : r = .err → ∀ (g' : Sg) m' h₁ h' e tk', Fr h₀ L h₁ m' → News h₀ L h₁ (g'.led w.params W x τ σ lex dlex io dio pb fs news) → Heap.NewExc h₁ h' e "ValueError" → E (.ref e) { s with heap := h', toks := tk' }) :
    wpAny (model pw w) (arT dp un gd L outer) (execs [rt1, rt2, rt3, rt4] (envT L)) Q E s := by
  have hlen : x.length = x.cps.toList.length := by show x.cps.size = _; rw [Array.length_toList]
  obtain ⟨Gt, Gs, Gr, Gi⟩ := G
  have F₂ := fr_norm F m1 m2 m3
  have hpl : x.length = g.pre.length + g.post.length := by rw [hlen, Gt, List.length_append]
  have hle : ∀ l : List Nat, (⟨l.toArray⟩ : Str).length = l.length := fun l => by simp [Str.length]
  have htok : (⟨g.tok.toArray⟩ : Str).length ≤ 1000 := by rw [hle]; omega
  refine pre_c B F₂ X N T Gt hsz ?_ (by omega) hne2 h12 h13 h14 hd hu ?_ ?_
  · intro p hp
    rcases List.mem_cons.mp hp with rfl | hp
    · show (lex : Nat) ≠ dio; omega
    · rcases List.mem_cons.mp hp with rfl | hp
      · show (dlex : Nat) ≠ dio; omega
      · exact hn1 p hp
  · intro hp t h' tk' F₃ N₃
    rw [hp] at Gr
    obtain ⟨st, tok, qd, pre, post, u, tl, tt, ts, te, ln⟩ := g
    cases st with
    | sp =>
      refine ch_sp_eof B F₃ X N₃ T hne2 h12 h13 h14 htok hd hu ?_
      intro m' t' h'' tk'' b1 b2 b3 F₄ N₄
      exact hfin ⟨.dead, tok, qd, pre, [], u, tl, tt, ts, te, ln⟩ m' h'' tk'' b1 b2 F₄ N₄ (by rw [Gt, hp]) (by simp only at Gs hpl ⊢; omega) Gr.symm
    | wd =>
      refine ch_a_eof B F₃ X N₃ T hne2 h12 h13 h14 htok hd hu ?_
      intro m' t' h'' tk'' b1 b2 b3 F₄ N₄
      exact hfin ⟨.dead, tok, qd, pre, [], u, tl, tt, ts, te, ln⟩ m' h'' tk'' b1 b2 F₄ N₄ (by rw [Gt, hp]) (by simp only at Gs hpl ⊢; omega) Gr.symm
    | dead =>
      refine ch_none B F₃ X N₃ T hne2 h12 h13 h14 htok hd hu ?_
      intro m' t' h'' tk'' b1 b2 b3 F₄ N₄
      exact hfin ⟨.dead, [], qd, pre, [], u, tl, t', ts, te, ln⟩ m' h'' tk'' b1 b2 F₄ N₄ (by rw [Gt, hp]) (by simp) Gr.symm
    | q d =>
      have Gi : isQt d = true := Gi
      refine ch_q_eof B F₃ X N₃ T hne2 h12 h13 h14 htok hd hu (qt_sp Gi) Gi ?_
      intro m' h₁ h'' e tk'' F₄ N₄ e₄
      exact herr Gr.symm ⟨.q d, tok, qd, pre, post, u, tl, tt, ts, te, ln⟩ m' h₁ h'' e tk'' F₄ N₄ e₄
  · intro c post' hp t u' ln' tl' h' tk' F₃ N₃
    rw [hp] at Gr
    obtain ⟨st, tok, qd, pre, post, u, tl, tt, ts, te, ln⟩ := g
    have hp : post = c :: post' := hp
    subst hp
    have Gt : x.cps.toList = pre ++ c :: post' := Gt
    have Gs : tok.length ≤ pre.length := Gs
    have hcx : (Str.ofString "\\").cps.toList.contains c = false := hbs c (by rw [Gt]; simp)
    have Gt' : x.cps.toList = (pre ++ [c]) ++ post' := by rw [Gt]; simp
    have hlp : ((pre.length : Int) + 1) = ((pre ++ [c]).length : Nat) := by simp
    have hlt : post'.length < (c :: post').length := by simp
    have hw : ∀ b : Bool, isWs c = b → ws4.cps.toList.contains c = b := fun b h => h
    have hq : ∀ b : Bool, isQt c = b → qs2.cps.toList.contains c = b := fun b h => h
    rw [hlp] at N₃
    cases st with
    | sp =>
      obtain ⟨rfl, rfl⟩ : tok = [] ∧ qd = false := Gi
      cases hw1 : isWs c with
      | true =>
        refine ch_sp_ws B F₃ X N₃ T hne2 h12 h13 h14 htok hd hu hw1 nilE rfl ?_
        intro m' t' h'' tk'' b1 b2 b3 F₄ N₄
        exact hnext ⟨.sp, [], false, pre ++ [c], post', u', tl', tt, ts, te, ln'⟩ m' h'' tk'' _ (.inr rfl) b1 b2 b3 F₄ N₄ hlt ⟨Gt', by simp, by rw [← Gr]; simp [lexRun, hw1], rfl, rfl⟩
      | false =>
        cases hq1 : isQt c with
        | true =>
          refine ch_sp_quote B F₃ X N₃ T hne2 h12 h13 h14 htok hd hu hw1 hq1 hcx (hW c hq1) ?_
          intro m' t' h'' tk'' b1 b2 b3 F₄ N₄
          exact hnext ⟨.q c, [], false, pre ++ [c], post', u', tl', tt, t, te, ln'⟩ m' h'' tk'' _ (.inl rfl) b1 b2 b3 F₄ N₄ hlt ⟨Gt', by simp, by rw [← Gr]; simp [lexRun, hw1, hq1], hq1⟩
        | false =>
          refine ch_sp_other B F₃ X N₃ T hne2 h12 h13 h14 htok hd hu hw1 hq1 hcx rfl ?_
          intro m' t' h'' tk'' b1 b2 b3 F₄ N₄
          exact hnext ⟨.wd, [c], false, pre ++ [c], post', u', tl', t, t', te, ln'⟩ m' h'' tk'' _ (.inl rfl) b1 b2 b3 F₄ N₄ hlt ⟨Gt', by simp, by rw [← Gr]; simp [lexRun, hw1, hq1], .inl (by simp)⟩
    | wd =>
      have Gi : tok ≠ [] ∨ qd = true := Gi
      cases hw1 : isWs c with
      | true =>
        refine ch_a_ws B F₃ X N₃ T hne2 h12 h13 h14 htok hd hu hw1 ?_ ?_
        · rw [hle]
          exact Gi.imp (fun h e => h (List.length_eq_zero_iff.mp e)) id
        intro m' t' h'' tk'' b1 b2 b3 F₄ N₄
        exact hfin ⟨.sp, tok, qd, pre ++ [c], post', u', tl', tt, t', te, ln'⟩ m' h'' tk'' b1 b2 F₄ N₄ Gt' (by simp only at hpl ⊢; omega) (by rw [← Gr]; simp [lexRun, hw1])
      | false =>
        cases hq1 : isQt c with
        | true =>
          refine ch_a_quote B F₃ X N₃ T hne2 h12 h13 h14 htok hd hu hw1 hq1 hcx (hW c hq1) ?_
          intro m' t' h'' tk'' b1 b2 b3 F₄ N₄
          exact hnext ⟨.q c, tok, qd, pre ++ [c], post', u', tl', tt, t, te, ln'⟩ m' h'' tk'' _ (.inl rfl) b1 b2 b3 F₄ N₄ hlt ⟨Gt', by simp; omega, by rw [← Gr]; simp [lexRun, hw1, hq1], hq1⟩
        | false =>
          refine ch_a_other B F₃ X N₃ T hne2 h12 h13 h14 htok hd hu hw1 hq1 hcx rfl ?_
          intro m' t' h'' tk'' b1 b2 b3 F₄ N₄
          rw [snoc] at N₄
          exact hnext ⟨.wd, tok ++ [c], qd, pre ++ [c], post', u', tl', t', ts, te, ln'⟩ m' h'' tk'' _ (.inl rfl) b1 b2 b3 F₄ N₄ hlt ⟨Gt', by simp; omega, by rw [← Gr]; simp [lexRun, hw1, hq1], .inl (by simp)⟩
    | dead =>
      have Gi : c :: post' = [] := Gi
      cases Gi
    | q d =>
      have Gi : isQt d = true := Gi
      cases hc : (c == d) with
      | true =>
        refine ch_q_same B F₃ X N₃ T hne2 h12 h13 h14 htok hd hu (qt_sp Gi) Gi ((one_beq c d).trans hc) ?_
        intro m' t' h'' tk'' b1 b2 b3 F₄ N₄
        exact hnext ⟨.wd, tok, true, pre ++ [c], post', u', tl', tt, t', te, ln'⟩ m' h'' tk'' _ (.inl rfl) b1 b2 b3 F₄ N₄ hlt ⟨Gt', by simp; omega, by rw [← Gr]; simp [lexRun, hc], .inr rfl⟩
      | false =>
        refine ch_q_other B F₃ X N₃ T hne2 h12 h13 h14 htok hd hu (qt_sp Gi) Gi ((one_beq c d).trans hc) hcx ?_
        intro m' t' h'' tk'' b1 b2 b3 F₄ N₄
        rw [snoc] at N₄
        exact hnext ⟨.q d, tok ++ [c], true, pre ++ [c], post', u', tl', t', ts, te, ln'⟩ m' h'' tk'' _ (.inl rfl) b1 b2 b3 F₄ N₄ hlt ⟨Gt', by simp; omega, by rw [← Gr]; simp [lexRun, hc], Gi⟩
theorem loop_c {g : Sg} {m : Str → Option Value} {r : Res}
    (B : Below A₀ base outer h₀) (F : Fr h₀ L s.heap m) (X : (K w.params).In h₀) (N : News h₀ L s.heap (g.led w.params W x τ σ lex dlex io dio pb fs news)) (T : Top q loose mean mg mb h₀)
    (m1 : m "self" = some (.ref lex)) (m2 : m "quoted" = some (.bool g.qd)) (m3 : m "escapedstate" = some (.str " " g.te)) (G : Good g x r)
    (hbs : ∀ c ∈ x.cps.toList, (Str.ofString "\\").cps.toList.contains c = false) (hW : ∀ c, isQt c = true → W.cps.toList.contains c = false) (hsz : x.length ≤ 1000)
    (hn1 : ∀ p ∈ news, p.1 ≠ dio) (hne2 : ∀ p ∈ news, p.1 ≠ dlex) (h12 : @LT.lt Nat _ dlex lex) (h13 : @LT.lt Nat _ lex dio) (h14 : @LT.lt Nat _ dio io)
    (hd : dp + 4 < recursionLimit) (hu : un + 30 < cLine)
    (hfin : ∀ (g' : Sg) m' h' tk', m' "self" = some (.ref lex) → m' "quoted" = some (.bool g'.qd) → Fr h₀ L h' m' → News h₀ L h' (g'.led w.params W x τ σ lex dlex io dio pb fs news) → x.cps.toList = g'.pre ++ g'.post → g'.tok.length ≤ x.length → r = .fin g'.tok g'.qd g'.st g'.post → Q .next { s with heap := h', toks := tk' })
    (herr : r = .err → ∀ (g' : Sg) m' h₁ h' e tk', Fr h₀ L h₁ m' → News h₀ L h₁ (g'.led w.params W x τ σ lex dlex io dio pb fs news) → Heap.NewExc h₁ h' e "ValueError" → E (.ref e) { s with heap := h', toks := tk' })
    (hE : PassesOwn (model pw w) (arT dp un gd L outer) (envT L) E) :
    wpAny (model pw w) (arT dp un gd L outer) (exec (.While testT [rt1, rt2, rt3, rt4] [] posT) (envT L)) Q E s := by
  have hlen : x.length = x.cps.toList.length := by show x.cps.size = _; rw [Array.length_toList]
  refine While_inv2 (fun n m nx => ∃ g : Sg, nx = g.led w.params W x τ σ lex dlex io dio pb fs news ∧ n = g.post.length ∧ m "self" = some (.ref lex) ∧ m "quoted" = some (.bool g.qd) ∧ m "escapedstate" = some (.str " " g.te) ∧ Good g x r) F N ⟨g, rfl, rfl, m1, m2, m3, G⟩ ?_ hE
  rintro n m₁ nx h₁ tk₁ F₁ N₁ ⟨g, rfl, rfl, a1, a2, a3, G⟩
  unfold testT litOf
  generalize hb : [rt1, rt2, rt3, rt4] = body
  k_steps
  subst hb
  refine turn_c B F₁ X N₁ T a1 a2 a3 G hbs hW hsz hn1 hne2 h12 h13 h14 hd hu ?_ ?_ ?_
  · intro g' m' h' tk' f hf b1 b2 b3 F₄ N₄ hl G₄
    rcases hf with rfl | rfl
    · exact ⟨h', tk', m', _, _, rfl, F₄, N₄, hl, g', rfl, rfl, b1, b2, b3, G₄⟩
    · exact ⟨h', tk', m', _, _, rfl, F₄, N₄, hl, g', rfl, rfl, b1, b2, b3, G₄⟩
  · intro g' m' h' tk' b1 b2 F₄ N₄ e1 e2 e3
    exact hfin g' m' h' tk' b1 b2 F₄ N₄ e1 e2 e3
  · intro e g' m' h₁ h' ex tk' F₄ N₄ e1
    exact herr e g' m' h₁ h' ex tk' F₄ N₄ e1
end
end Mine
end
section
open Lean Meta Elab PySem PySem.W PyProof.Rows
set_option maxRecDepth 100000
set_option maxHeartbeats 0
set_option Elab.async false
set_option linter.unusedVariables false
namespace Mine
theorem fillG : (fun (_ : Params → Frag) (_ : OpenLaw) => True) K rw1 := by k_fill; trivial

noncomputable def rtP0 : Stmt := litOf (stm fshlex_read_token_b 0) (by conv => rhs; whnf)
noncomputable def rtP1 : Stmt := litOf (stm fshlex_read_token_b 1) (by conv => rhs; whnf)
noncomputable def rtW : Stmt := .While testT [rt1, rt2, rt3, rt4] [] posT
noncomputable def rtP3 : Stmt := litOf (stm fshlex_read_token_b 3) (by conv => rhs; whnf)
noncomputable def rtP4 : Stmt := litOf (stm fshlex_read_token_b 4) (by conv => rhs; whnf)
noncomputable def rtP5 : Stmt := litOf (stm fshlex_read_token_b 5) (by conv => rhs; whnf)
noncomputable def rtP6 : Stmt := litOf (stm fshlex_read_token_b 6) (by conv => rhs; whnf)
noncomputable def rtP7 : Stmt := litOf (stm fshlex_read_token_b 7) (by conv => rhs; whnf)
theorem rt_body : fshlex_read_token_b = [rtP0, rtP1, rtW, rtP3, rtP4, rtP5, rtP6, rtP7] := by with_unfolding_all rfl
local macro_rules | `(tactic| walk_at "leaving ref") => `(tactic| (k_here; first
  | (refine' leave_newS ?k1 ?k0 ?k2 ?k3 ?_; (case k0 => assumption); (case k1 => assumption); (case k2 => assumption); (case k3 => k_asm); k_whole; intro h' R' R2' U'; (try dsimp only at R' R2' U' ⊢))
  | (refine' leave_onSN ?k1 ?k2 ?k3 ?k4 ?_; (case k3 => assumption); (case k1 => assumption); (case k4 => assumption); (case k2 => assumption); k_whole; intro h' R' R2' U'; (try dsimp only at R' R2' U' ⊢))
  | (refine' leave_raiseS ?k1 ?k0 ?k2 ?k3 ?_; (case k0 => assumption); (case k1 => assumption); (case k2 => assumption); (case k3 => k_asm); k_whole; intro h' t' R' R2' U'; (try dsimp only at R' R2' U' ⊢))))
local macro_rules | `(tactic| walk_at "execs") => `(tactic| (k_here; rw [rt_body]; unfold rtP0 rtP1 rtP3 rtP4 rtP5 rtP6 rtP7))
theorem raisedSN_drop {base G h : Heap} {l : List Env} {e : Addr} {cls : Value} {a b c d : Addr × Obj} {news : List (Addr × Obj)} (R : RaisedSN base G l e cls (a :: b :: c :: d :: news) h) : RaisedSN base G l e cls news h := by
  obtain ⟨B, a0, h1, h0, h2, h3⟩ := R
  exact ⟨B, a0, h1, h0, fun q hq => h2 q (by simp [hq]), h3⟩
theorem ne_nil {tok : List Nat} (h : tok ≠ []) : ((⟨tok.toArray⟩ : Str) == Str.ofString "") = false := by
  rw [← nilE, Bool.eq_false_iff]
  intro e
  simp at e
  exact h e
theorem fr_norm2 {h₀ h : Heap} {L : Addr} {m : Str → Option Value} {lex : Nat} {qd : Bool} (F : Fr h₀ L h m) (a : m "self" = some (.ref lex)) (b : m "quoted" = some (.bool qd)) :
    Fr h₀ L h (fun (y : Str) => if y = ("self" : Str) then some (Value.ref lex) else if y = ("quoted" : Str) then some (Value.bool qd) else m y) := by
  have e : (fun (y : Str) => if y = ("self" : Str) then some (Value.ref lex) else if y = ("quoted" : Str) then some (Value.bool qd) else m y) = m := by
    funext y
    split
    · rename_i h; rw [h, a]
    · split
      · rename_i h; rw [h, b]
      · rfl
  rw [e]; exact F
section
variable {w : World} {mean : ExcName → Option Value} {mg mb : Str → Option Value} {dp un : Nat} {gd : Option (List Code)} {outer : List Env} {A₀ : Around} {base h₀ : Heap} {L : Addr} {news : List (Addr × Obj)} {s : Shared} {Q : Flow → Shared → Prop} {E : Value → Shared → Prop}
  {m₀ : Str → Option Value} {lex dlex io dio pb fs : Nat} {x W : Str} {τ σ : Nat → Tok}
theorem loop_w {g : Sg} {m : Str → Option Value} {r : Res} {te : Tok}
    (B : Below A₀ base outer h₀) (F : Fr h₀ L s.heap m) (X : (K w.params).In h₀) (N : News h₀ L s.heap (g.led w.params W x τ σ lex dlex io dio pb fs news)) (T : Top q loose mean mg mb h₀)
    (m1 : m "self" = some (.ref lex)) (m2 : m "quoted" = some (.bool false)) (m3 : m "escapedstate" = some (.str " " te)) (G : Good g x r) (hg : g.qd = false)
    (hbs : ∀ c ∈ x.cps.toList, (Str.ofString "\\").cps.toList.contains c = false) (hW : ∀ c, isQt c = true → W.cps.toList.contains c = false) (hsz : x.length ≤ 1000)
    (hn1 : ∀ p ∈ news, p.1 ≠ dio) (hne2 : ∀ p ∈ news, p.1 ≠ dlex) (h12 : @LT.lt Nat _ dlex lex) (h13 : @LT.lt Nat _ lex dio) (h14 : @LT.lt Nat _ dio io)
    (hd : dp + 4 < recursionLimit) (hu : un + 30 < cLine)
    (hfin1 : ∀ (tok : List Nat) st pre post u  tl tt ts ln (m' : Str → Option Value) h' tk', r = .fin tok true st post → Fr h₀ L h' (fun (y : Str) => if y = ("self" : Str) then some (Value.ref lex) else if y = ("quoted" : Str) then some (Value.bool true) else m' y) → News h₀ L h' (Mine.led w.params W x τ σ lex dlex io dio pb fs (pre.length : Nat) u (stV st ts) ln tl ⟨tok.toArray⟩ tt news) → x.cps.toList = pre ++ post → Q .next { s with heap := h', toks := tk' })
    (hfin2 : ∀ st pre post u  tl tt ts ln (m' : Str → Option Value) h' tk', r = .fin [] false st post → Fr h₀ L h' (fun (y : Str) => if y = ("self" : Str) then some (Value.ref lex) else if y = ("quoted" : Str) then some (Value.bool false) else m' y) → News h₀ L h' (Mine.led w.params W x τ σ lex dlex io dio pb fs (pre.length : Nat) u (stV st ts) ln tl "" tt news) → x.cps.toList = pre ++ post → Q .next { s with heap := h', toks := tk' })
    (hfin3 : ∀ (tok : List Nat) st pre post u  tl tt ts ln (m' : Str → Option Value) h' tk', r = .fin tok false st post → tok ≠ [] → ((⟨tok.toArray⟩ : Str) == Str.ofString "") = false → Fr h₀ L h' (fun (y : Str) => if y = ("self" : Str) then some (Value.ref lex) else if y = ("quoted" : Str) then some (Value.bool false) else m' y) → News h₀ L h' (Mine.led w.params W x τ σ lex dlex io dio pb fs (pre.length : Nat) u (stV st ts) ln tl ⟨tok.toArray⟩ tt news) → x.cps.toList = pre ++ post → Q .next { s with heap := h', toks := tk' })
    (herr : r = .err → ∀ (g' : Sg) m' h₁ h' e tk', Fr h₀ L h₁ m' → News h₀ L h₁ (g'.led w.params W x τ σ lex dlex io dio pb fs news) → Heap.NewExc h₁ h' e "ValueError" → E (.ref e) { s with heap := h', toks := tk' })
    (hE : PassesOwn (model pw w) (arT dp un gd L outer) (envT L) E) :
    wpAny (model pw w) (arT dp un gd L outer) (exec rtW (envT L)) Q E s := by
  obtain ⟨st, tok, qd, pre, post, u, tl, tt, ts, te', ln⟩ := g
  obtain rfl : qd = false := hg
  refine loop_c (g := ⟨st, tok, false, pre, post, u, tl, tt, ts, te, ln⟩) B F X N T m1 m2 m3 ⟨G.text, G.short, G.same, G.inv⟩ hbs hW hsz hn1 hne2 h12 h13 h14 hd hu ?_ herr hE
  rintro ⟨st, tok, qd, pre, post, u, tl, tt, ts, te, ln⟩ m' h' tk' b1 b2 F₄ N₄ e1 e2 e3
  have F₅ := fr_norm2 F₄ b1 b2
  cases qd with
  | true => exact hfin1 tok st pre post u tl tt ts ln m' h' tk' e3 F₅ N₄ e1
  | false =>
    by_cases ht : tok = []
    · subst ht
      exact hfin2 st pre post u tl tt ts ln m' h' tk' e3 F₅ N₄ e1
    · exact hfin3 tok st pre post u tl tt ts ln m' h' tk' e3 ht (ne_nil ht) F₅ N₄ e1
end
local macro_rules | `(tactic| walk_at "exec") => `(tactic| (k_here; k_dflt (refine' loop_w ?rB ?rF ?rX ?rN ?rT ?r1 ?r2 ?r3 ?rG ?rg ?rb ?rW ?rz ?rn1 ?rn2 ?r12 ?r13 ?r14 ?rd ?ru ?_ ?_ ?_ ?_ ?rE; (case rB => k_asm); (case rF => k_asm); (case rX => k_asm); (case rN => k_asm); (case rT => k_asm); (case r1 => exact rfl); (case r2 => exact rfl); (case r3 => exact rfl); (case rG => assumption); (case rg => assumption); (case rb => assumption); (case rW => assumption); (case rz => assumption); (case rn1 => assumption); (case rn2 => assumption); (case r12 => assumption); (case r13 => assumption); (case r14 => assumption); (case rd => ktr_room); (case ru => ktr_units); (case rE => passes_own); k_whole)))
section
variable {w : World} {mean : ExcName → Option Value} {mg mb : Str → Option Value} {dp un : Nat} {gd : Option (List Code)} {cn : Str} {cs : Scope} {a : Addr} {ccd : Value} {cl : List (Str × Addr)} {outer : List Env} {A₀ : Around} {base h₀ : Heap} {L : Addr} {m : Str → Option Value} {news : List (Addr × Obj)} {s : Shared} {Q E : Value → Shared → Prop}
  {lex dlex io dio pb fs : Nat} {x W : Str} {τ σ : Nat → Tok}
theorem token_c {g : Sg} {r : Res}
    (B : Below A₀ base outer h₀) (F : Fr h₀ L s.heap m) (X : (K w.params).In h₀) (N : News h₀ L s.heap (g.led w.params W x τ σ lex dlex io dio pb fs news)) (T : Top q loose mean mg mb h₀) (hk : cs.kind = .function)
    (G : Good g x r) (hg : g.qd = false)
    (hbs : ∀ c ∈ x.cps.toList, (Str.ofString "\\").cps.toList.contains c = false) (hW : ∀ c, isQt c = true → W.cps.toList.contains c = false) (hsz : x.length ≤ 1000)
    (hn1 : ∀ p ∈ news, p.1 ≠ dio) (hne2 : ∀ p ∈ news, p.1 ≠ dlex) (h12 : @LT.lt Nat _ dlex lex) (h13 : @LT.lt Nat _ lex dio) (h14 : @LT.lt Nat _ dio io)
    (hd : dp + 5 < recursionLimit) (hu : un + 40 < cLine)
    (hret : ∀ (tok : List Nat) qd v st pre post u tl tt ts ln h' tk', r = .fin tok qd st post → (v = .none ∧ tok = [] ∧ qd = false ∨ (∃ t, v = .str ⟨tok.toArray⟩ t) ∧ (tok ≠ [] ∨ qd = true)) → Fr h₀ L h' m → News h₀ L h' (Mine.led w.params W x τ σ lex dlex io dio pb fs (pre.length : Nat) u (stV st ts) ln tl "" tt news) → x.cps.toList = pre ++ post → Q v { s with heap := h', toks := tk' })
    (herr : r = .err → ∀ gg h' e tk', Fr h₀ L gg m → gg.UpToSlots h' → RaisedSN base gg (envX cn cs L a ccd cl :: outer) e (.type "ValueError") news h' → E (.ref e) { s with heap := h', toks := tk' }) :
    wpAny (model pw w) (ktrTop dp un gd cn cs L a ccd cl outer) (call (.ref 690) [.ref lex]) Q E s := by
  refine wpAny_call ?_
  k_dflt (walk_at "c_enter")
  k_steps
  all_goals first
    | exact hret _ _ _ _ _ _ _ _ _ _ _ _ _ (by assumption) (.inr ⟨⟨_, rfl⟩, .inr rfl⟩) (by k_asm) (by k_asm) (by assumption)
    | exact hret _ _ _ _ _ _ _ _ _ _ _ _ _ (by assumption) (.inr ⟨⟨_, rfl⟩, .inl (by assumption)⟩) (by k_asm) (by k_asm) (by assumption)
    | exact hret _ _ _ _ _ _ _ _ _ _ _ _ _ (by assumption) (.inl ⟨rfl, rfl, rfl⟩) (by k_asm) (by k_asm) (by assumption)
    | exact herr (by assumption) _ _ _ _ (by k_asm) (by assumption) (raisedSN_drop (by assumption))
    | (fail "END")
end
end Mine
end
section
open Lean Meta Elab PySem PySem.W PyProof.Rows
set_option maxRecDepth 100000
set_option maxHeartbeats 0
set_option Elab.async false
set_option linter.unusedVariables false
namespace Mine
abbrev dqE : Obj := ⟨.type "collections.deque", none, .fields #[.none, .int 0 0], #[]⟩
theorem noBool_dq : typeLookup (.type "collections.deque") "__bool__" = pure none := by rw [typeLookup_type, builtinLookup_eq_fast]; kernel_rfl
theorem slot_dq_len : Slot "collections.deque" "__len__" "collections.deque.__len__" :=
  .of (owner := "collections.deque") (n := "__len__") (by rw [typeLookup_type, builtinLookup_eq_fast]; kernel_rfl) (by decide +kernel) (by decide +kernel) (by decide +kernel)
    (by first | exact .inl (by decide +kernel) | exact .inr (by decide +kernel)) (by rw [isSubtype_type]; kernel_rfl)
theorem entry_dq_len : entryFor table "collections.deque.__len__" = some Builtin.«collections.deque.__len__» := entryFor_of_fast (by kernel_rfl)
theorem args_dq_len (a : Value) : argsOk "collections.deque.__len__" ⟨[a], []⟩ := by unfold argsOk; kernel_rfl
section
variable {prog : Program} {w : World} {A : Around} {E : Value → Shared → Prop} {s : Shared}
theorem dq_typeIs {a : Addr} {o : Obj} (h : s.heap.get? a = some o) (hc : o.cls = .type "collections.deque") : s.TypeIs (.ref a) "collections.deque" := by
  exact ⟨o, h, hc⟩
theorem len_body_dq {l : Addr} {Q : Value → Shared → Prop} (hl : s.heap.get? l = some dqE)
    (h : Q (.int 0 (s.toks + 1)) { s with toks := s.toks + 1 + 1 }) : wpAny (model prog w) A (Builtin.«len» ⟨[.ref l], []⟩) (fun fin s' => ∃ r, fin = .done (.ret r) ∧ Q r s') E s := by
  unfold Builtin.«len»
  refine wpAny_bind (m := oneArg "len" _) (wpAny_pure ?_)
  refine wpAny_bind (m := callSpecial? (.ref l) (Str.ofString "__len__")) (wpAny_callSpecial?_slot (name := Str.ofString "__len__") (dq_typeIs hl rfl) slot_dq_len
    (wpAny_call_entry slot_dq_len (dq_typeIs hl rfl) entry_dq_len ?_ (args_dq_len _)))
  unfold Builtin.«collections.deque.__len__»
  refine wpAny_bind (wpAny_pure ?_)
  unfold Builtin.Deque.size
  refine wpAny_bind (wpAny_bind (wpAny_fieldsOf hl rfl ?_))
  refine wpAny_pure (wpAny_bind (wpAny_mkInt (wpAny_pure ⟨_, rfl, ?_⟩)))
  refine wpAny_bind (wpAny_holding (wpAny_pure ?_))
  refine wpAny_bind (wpAny_letGo ?_)
  exact wpAny_bind (wpAny_mkInt (wpAny_pure ⟨_, rfl, h⟩))
theorem truthy_dq {l : Addr} {Q : Bool → Shared → Prop} (hl : s.heap.get? l = some dqE)
    (h : ∀ k, Q false { s with toks := k }) : wpAny (model prog w) A (truthy (.ref l)) Q E s := by
  have key : wpAny (model prog w) A (runValue (.builtin "len" ⟨[.ref l], []⟩)) (fun r s' => r = .int 0 (s.toks + 1) ∧ Q false s') E s := by
    refine wpAny_runValue (codeAny_builtin entry_len ?_)
    rw [Around.under_plainId plain_len _]
    exact wpAny_mono (len_body_dq (Q := fun r s' => r = .int 0 (s.toks + 1) ∧ Q false s') hl ⟨rfl, h _⟩)
      (fun fin s' h' => by obtain ⟨r, rfl, hq⟩ := h'; exact hq) fun _ _ e => e
  unfold truthy
  first
    | refine wpAny_bind (wpAny_callSpecial?_none (name := Str.ofString "__bool__") (dq_typeIs hl rfl) noBool_dq ?_)
    | refine wpAny_bind (wpAny_pure (wpAny_bind (wpAny_callSpecial?_none (name := Str.ofString "__bool__") (dq_typeIs hl rfl) noBool_dq ?_)))
  first
    | refine wpAny_bind (wpAny_specialOf (name := Str.ofString "__len__") (dq_typeIs hl rfl) slot_dq_len.lookup ?_)
    | refine wpAny_bind (wpAny_pure (wpAny_bind (wpAny_specialOf (name := Str.ofString "__len__") (dq_typeIs hl rfl) slot_dq_len.lookup ?_)))
  first
    | exact wpAny_bind (wpAny_mono key (fun r s' h' => by obtain ⟨rfl, hq⟩ := h'; exact wpAny_pure hq) fun _ _ e => e)
    | exact wpAny_bind (wpAny_pure (wpAny_bind (wpAny_mono key (fun r s' h' => by obtain ⟨rfl, hq⟩ := h'; exact wpAny_pure hq) fun _ _ e => e)))
end
end Mine
end
section
open PySem PySem.W PyProof.Rows
local macro_rules | `(tactic| walk_at "no such key") => `(tactic| fail)
open Lean Meta Elab PySem PySem.W PyProof.Rows
set_option maxRecDepth 100000
set_option maxHeartbeats 0
set_option Elab.async false
set_option linter.unusedVariables false
namespace Mine
theorem fillH : (fun (_ : Params → Frag) (_ : OpenLaw) => True) K rw1 := by k_fill; trivial
theorem truthy_dqN {prog : Program} {w : World} {A : Around} {E : Value → Shared → Prop} {s : Shared} {h₀ : Heap} {L l : Addr} {ld : List (Addr × Obj)} {Q : Bool → Shared → Prop} (N : News h₀ L s.heap ld) (hl : (l, dqE) ∈ ld)
    (h : ∀ k, Q false { s with toks := k }) : wpAny (model prog w) A (truthy (.ref l)) Q E s := truthy_dq (N _ hl).1 h
local macro_rules | `(tactic| walk_at "truthy ref") => `(tactic| (k_here; k_dflt (refine' truthy_dqN ?rN ?rm ?_; (case rN => k_asm); (case rm => repeat first | exact List.mem_cons_self | apply List.mem_cons_of_mem); k_whole); intro k9))
local macro_rules | `(tactic| walk_at "leaving ref") => `(tactic| (k_here; first
  | (refine' leave_newS ?k1 ?k0 ?k2 ?k3 ?_; (case k0 => assumption); (case k1 => assumption); (case k2 => assumption); (case k3 => k_asm); k_whole; intro h' R' R2' U'; (try dsimp only at R' R2' U' ⊢))
  | (refine' leave_onSN ?k1 ?k2 ?k3 ?k4 ?_; (case k3 => assumption); (case k1 => assumption); (case k4 => assumption); (case k2 => assumption); k_whole; intro h' R' R2' U'; (try dsimp only at R' R2' U' ⊢))
  | (refine' leave_raiseS ?k1 ?k0 ?k2 ?k3 ?_; (case k0 => assumption); (case k1 => assumption); (case k2 => assumption); (case k3 => k_asm); k_whole; intro h' t' R' R2' U'; (try dsimp only at R' R2' U' ⊢))))
local macro_rules | `(tactic| walk_at "call ref") => `(tactic| (k_here; k_dflt (refine' token_c ?rB ?rF ?rX ?rN ?rT ?rK ?rG ?rg ?rb ?rW ?rz ?rn1 ?rn2 ?r12 ?r13 ?r14 ?rd ?ru ?_ ?_; (case rB => k_asm); (case rF => k_asm); (case rX => k_asm); (case rN => k_asm); (case rT => k_asm); (case rK => first | exact rfl | assumption); (case rG => assumption); (case rg => assumption); (case rb => assumption); (case rW => assumption); (case rz => assumption); (case rn1 => assumption); (case rn2 => assumption); (case r12 => assumption); (case r13 => assumption); (case r14 => assumption); (case rd => ktr_room); (case ru => ktr_units); k_whole); (all_goals first | (refine fun (tok9 : List Nat) qd9 v9 st9 pre9 post9 u9 tl9 tt9 ts9 ln9 h9 tk9 e9 hv9 F9 N9 ex9 => ?_; rcases hv9 with ⟨hv9, hv8⟩ | ⟨⟨t9, hv9⟩, hv8⟩ <;> subst hv9) | refine fun e9 g9 h9 x9 tk9 F9 U9 R9 => ?_)))
section
variable {w : World} {mean : ExcName → Option Value} {mg mb : Str → Option Value} {dp un : Nat} {gd : Option (List Code)} {cn : Str} {cs : Scope} {a : Addr} {ccd : Value} {cl : List (Str × Addr)} {outer : List Env} {A₀ : Around} {base h₀ : Heap} {L : Addr} {m : Str → Option Value} {news : List (Addr × Obj)} {s : Shared} {Q E : Value → Shared → Prop}
  {lex dlex io dio pb fs : Nat} {x W : Str} {τ σ : Nat → Tok}
theorem get_c {g : Sg} {r : Res}
    (B : Below A₀ base outer h₀) (F : Fr h₀ L s.heap m) (X : (K w.params).In h₀) (N : News h₀ L s.heap (g.led w.params W x τ σ lex dlex io dio pb fs ((pb, dqE) :: (fs, dqE) :: news))) (T : Top q loose mean mg mb h₀) (hk : cs.kind = .function)
    (G : Good g x r) (hg : g.qd = false)
    (hbs : ∀ c ∈ x.cps.toList, (Str.ofString "\\").cps.toList.contains c = false) (hW : ∀ c, isQt c = true → W.cps.toList.contains c = false) (hsz : x.length ≤ 1000)
    (hn1 : ∀ p ∈ ((pb, dqE) :: (fs, dqE) :: news), p.1 ≠ dio) (hne2 : ∀ p ∈ ((pb, dqE) :: (fs, dqE) :: news), p.1 ≠ dlex) (h12 : @LT.lt Nat _ dlex lex) (h13 : @LT.lt Nat _ lex dio) (h14 : @LT.lt Nat _ dio io)
    (hd : dp + 6 < recursionLimit) (hu : un + 50 < cLine)
    (hret : ∀ (tok : List Nat) qd v st pre post u tl tt ts ln h' tk', r = .fin tok qd st post → (v = .none ∧ tok = [] ∧ qd = false ∨ (∃ t, v = .str ⟨tok.toArray⟩ t) ∧ (tok ≠ [] ∨ qd = true)) → Fr h₀ L h' m → News h₀ L h' (Mine.led w.params W x τ σ lex dlex io dio pb fs (pre.length : Nat) u (stV st ts) ln tl "" tt ((pb, dqE) :: (fs, dqE) :: news)) → x.cps.toList = pre ++ post → Q v { s with heap := h', toks := tk' })
    (herr : r = .err → ∀ gg h' e tk', Fr h₀ L gg m → gg.UpToSlots h' → RaisedSN base gg (envX cn cs L a ccd cl :: outer) e (.type "ValueError") ((pb, dqE) :: (fs, dqE) :: news) h' → E (.ref e) { s with heap := h', toks := tk' }) :
    wpAny (model pw w) (ktrTop dp un gd cn cs L a ccd cl outer) (call (.ref 683) [.ref lex]) Q E s := by
  refine wpAny_call ?_
  k_dflt (walk_at "c_enter")
  k_steps
  all_goals first
    | exact hret _ _ _ _ _ _ _ _ _ _ _ _ _ (by assumption) (.inr ⟨⟨_, rfl⟩, by assumption⟩) (by k_asm) (by k_asm) (by assumption)
    | exact hret _ _ _ _ _ _ _ _ _ _ _ _ _ (by assumption) (.inl ⟨rfl, by assumption⟩) (by k_asm) (by k_asm) (by assumption)
    | exact herr (by assumption) _ _ _ _ (by k_asm) (by assumption) (by assumption)
    | (fail "END")
end
end Mine
end
section
open Lean Meta Elab PySem PySem.W PyProof.Rows
set_option maxRecDepth 100000
set_option maxHeartbeats 0
set_option Elab.async false
set_option linter.unusedVariables false
namespace Mine
theorem fillI : (fun (_ : Params → Frag) (_ : OpenLaw) => True) K rw1 := by k_fill; trivial
theorem raisedS_drop {base G h : Heap} {l : List Env} {e t : Addr} {vs : List Value} {cls : Value} {a b c d : Addr × Obj} {news : List (Addr × Obj)} (R : RaisedS base G l e cls t vs (a :: b :: c :: d :: news) h) : RaisedS base G l e cls t vs news h := by
  obtain ⟨⟨B, h1, h0, h2, h3⟩, h4⟩ := R
  exact ⟨⟨B, h1, h0, fun q hq => h2 q (by simp [hq]), h3⟩, h4⟩
local macro_rules | `(tactic| walk_at "leaving ref") => `(tactic| (k_here; first
  | (refine' leave_newS ?k1 ?k0 ?k2 ?k3 ?_; (case k0 => assumption); (case k1 => assumption); (case k2 => assumption); (case k3 => k_asm); k_whole; intro h' R' R2' U'; (try dsimp only at R' R2' U' ⊢))
  | (refine' leave_onSN ?k1 ?k2 ?k3 ?k4 ?_; (case k3 => assumption); (case k1 => assumption); (case k4 => assumption); (case k2 => assumption); k_whole; intro h' R' R2' U'; (try dsimp only at R' R2' U' ⊢))
  | (refine' leave_raiseS ?k1 ?k0 ?k2 ?k3 ?_; (case k0 => first | assumption | exact Heap.MadeExc.of (by assumption)); (case k1 => assumption); (case k2 => assumption); (case k3 => k_asm); k_whole; intro h' t' R' R2' U'; (try dsimp only at R' R2' U' ⊢))))
local macro_rules | `(tactic| walk_at "call ref") => `(tactic| (k_here; k_dflt (refine' get_c ?rB ?rF ?rX ?rN ?rT ?rK ?rG ?rg ?rb ?rW ?rz ?rn1 ?rn2 ?r12 ?r13 ?r14 ?rd ?ru ?_ ?_; (case rB => k_asm); (case rF => k_asm); (case rX => k_asm); (case rN => k_asm); (case rT => k_asm); (case rK => first | exact rfl | assumption); (case rG => assumption); (case rg => assumption); (case rb => assumption); (case rW => assumption); (case rz => assumption); (case rn1 => assumption); (case rn2 => assumption); (case r12 => assumption); (case r13 => assumption); (case r14 => assumption); (case rd => ktr_room); (case ru => ktr_units); k_whole); (all_goals first | (refine fun (tok9 : List Nat) qd9 v9 st9 pre9 post9 u9 tl9 tt9 ts9 ln9 h9 tk9 e9 hv9 F9 N9 ex9 => ?_; rcases hv9 with ⟨hv9, hv7, hv8⟩ | ⟨⟨t9, hv9⟩, hv8⟩ <;> (first | subst hv9 hv7 hv8 | subst hv9)) | refine fun e9 g9 h9 x9 tk9 F9 U9 R9 => ?_)))
section
variable {w : World} {mean : ExcName → Option Value} {mg mb : Str → Option Value} {dp un : Nat} {gd : Option (List Code)} {cn : Str} {cs : Scope} {a : Addr} {ccd : Value} {cl : List (Str × Addr)} {outer : List Env} {A₀ : Around} {base h₀ : Heap} {L : Addr} {m : Str → Option Value} {news : List (Addr × Obj)} {s : Shared} {Q E : Value → Shared → Prop}
  {lex dlex io dio pb fs : Nat} {x W : Str} {τ σ : Nat → Tok}
theorem next_c {g : Sg} {r : Res}
    (B : Below A₀ base outer h₀) (F : Fr h₀ L s.heap m) (X : (K w.params).In h₀) (N : News h₀ L s.heap (g.led w.params W x τ σ lex dlex io dio pb fs ((pb, dqE) :: (fs, dqE) :: news))) (T : Top q loose mean mg mb h₀) (hk : cs.kind = .function)
    (G : Good g x r) (hg : g.qd = false)
    (hbs : ∀ c ∈ x.cps.toList, (Str.ofString "\\").cps.toList.contains c = false) (hW : ∀ c, isQt c = true → W.cps.toList.contains c = false) (hsz : x.length ≤ 1000)
    (hn1 : ∀ p ∈ ((pb, dqE) :: (fs, dqE) :: news), p.1 ≠ dio) (hne2 : ∀ p ∈ ((pb, dqE) :: (fs, dqE) :: news), p.1 ≠ dlex) (h12 : @LT.lt Nat _ dlex lex) (h13 : @LT.lt Nat _ lex dio) (h14 : @LT.lt Nat _ dio io)
    (hd : dp + 7 < recursionLimit) (hu : un + 60 < cLine)
    (hret : ∀ (tok : List Nat) qd t st pre post u tl tt ts ln h' tk', r = .fin tok qd st post → (tok ≠ [] ∨ qd = true) → Fr h₀ L h' m → News h₀ L h' (Mine.led w.params W x τ σ lex dlex io dio pb fs (pre.length : Nat) u (stV st ts) ln tl "" tt ((pb, dqE) :: (fs, dqE) :: news)) → x.cps.toList = pre ++ post → Q (.str ⟨tok.toArray⟩ t) { s with heap := h', toks := tk' })
    (hstop : ∀ st post, r = .fin [] false st post → ∀ gg h' e t tk', Fr h₀ L gg m → gg.UpToSlots h' → RaisedS base gg (envX cn cs L a ccd cl :: outer) e (.type "StopIteration") t [] ((pb, dqE) :: (fs, dqE) :: news) h' → E (.ref e) { s with heap := h', toks := tk' })
    (herr : r = .err → ∀ gg h' e tk', Fr h₀ L gg m → gg.UpToSlots h' → RaisedSN base gg (envX cn cs L a ccd cl :: outer) e (.type "ValueError") ((pb, dqE) :: (fs, dqE) :: news) h' → E (.ref e) { s with heap := h', toks := tk' }) :
    wpAny (model pw w) (ktrTop dp un gd cn cs L a ccd cl outer) (call (.ref 719) [.ref lex]) Q E s := by
  refine wpAny_call ?_
  k_dflt (walk_at "c_enter")
  k_steps
  all_goals first
    | exact hret _ _ _ _ _ _ _ _ _ _ _ _ _ (by assumption) (by assumption) (by k_asm) (by k_asm) (by assumption)
    | exact herr (by assumption) _ _ _ _ (by k_asm) (by assumption) (by assumption)
    | exact hstop _ _ (by assumption) _ _ _ _ _ (by k_asm) (by assumption) (raisedS_drop (by assumption))
    | (fail "END")
end
end Mine
end
section
open Lean Meta Elab PySem PySem.W PyProof.Rows
set_option maxRecDepth 100000
set_option maxHeartbeats 0
set_option Elab.async false
set_option linter.unusedVariables false
namespace Mine
theorem fillJ : (fun (_ : Params → Frag) (_ : OpenLaw) => True) K rw1 := by k_fill; trivial
inductive Lexes : List Nat → St → Option (List (List Nat)) → Prop
  | err {post st} : lexRun post st [] false = .err → Lexes post st none
  | stop {post st st' post'} : lexRun post st [] false = .fin [] false st' post' → Lexes post st (some [])
  | word {post st tok qd st' post' r} : lexRun post st [] false = .fin tok qd st' post' → (tok ≠ [] ∨ qd = true) → Lexes post' st' r → Lexes post st (r.map (tok :: ·))
theorem lexRun_len : ∀ (post : List Nat) (st : St) (tok : List Nat) (qd : Bool) (tok' qd' st' post'), lexRun post st tok qd = .fin tok' qd' st' post' → post'.length ≤ post.length - 1 ∧ (st' = .sp ∨ st' = .dead ∧ post' = []) := by
  intro post
  induction post with
  | nil => intro st tok qd tok' qd' st' post' h; cases st <;> simp [lexRun] at h <;> simp_all
  | cons c r ih =>
    intro st tok qd tok' qd' st' post' h
    cases st with
    | sp =>
      unfold lexRun at h
      split at h
      · have := ih _ _ _ _ _ _ _ h; exact ⟨by simp; omega, this.2⟩
      · split at h
        · have := ih _ _ _ _ _ _ _ h; exact ⟨by simp; omega, this.2⟩
        · have := ih _ _ _ _ _ _ _ h; exact ⟨by simp; omega, this.2⟩
    | wd =>
      unfold lexRun at h
      split at h
      · cases h; simp
      · split at h
        · have := ih _ _ _ _ _ _ _ h; exact ⟨by simp; omega, this.2⟩
        · have := ih _ _ _ _ _ _ _ h; exact ⟨by simp; omega, this.2⟩
    | dead => simp [lexRun] at h
    | q d =>
      unfold lexRun at h
      split at h
      · have := ih _ _ _ _ _ _ _ h; exact ⟨by simp; omega, this.2⟩
      · have := ih _ _ _ _ _ _ _ h; exact ⟨by simp; omega, this.2⟩
theorem lexRun_short {post : List Nat} {st : St} {tok' qd' st' post'} (hst : st = .sp ∨ st = .dead ∧ post = []) (h : lexRun post st [] false = .fin tok' qd' st' post') (hw : tok' ≠ [] ∨ qd' = true) : post'.length < post.length := by
  cases post with
  | nil =>
    rcases hst with rfl | ⟨rfl, _⟩ <;> simp [lexRun] at h <;> simp_all
  | cons c r =>
    have := (lexRun_len _ _ _ _ _ _ _ _ h).1
    simp at this ⊢
    omega
theorem inv_start {st : St} {post : List Nat} (h : st = .sp ∨ st = .dead ∧ post = []) : inv st [] false post := by
  rcases h with rfl | ⟨rfl, rfl⟩
  · exact ⟨rfl, rfl⟩
  · exact rfl
abbrev lst (acc : List Value) (c : Nat) : Obj := { cls := .type "list", dict := none, data := .seq acc.toArray c, slots := #[] }
theorem raisedSN_sub {base G h : Heap} {l : List Env} {e : Addr} {cls : Value} {n₁ n₂ : List (Addr × Obj)} (hs : ∀ q ∈ n₂, q ∈ n₁) (R : RaisedSN base G l e cls n₁ h) : RaisedSN base G l e cls n₂ h := by
  obtain ⟨B, a0, h1, h0, h2, h3⟩ := R
  exact ⟨B, a0, h1, h0, fun q hq => h2 q (hs q hq), h3⟩
section
variable {M : Model} {A : Around} {E : Value → Shared → Prop} {s : Shared} {A₀ : Around} {base g G : Heap} {outer : List Env} {L a e t : Addr} {m : Str → Option Value} {name : Str} {scope : Scope} {cd : Value} {vs : List Value} {news : List (Addr × Obj)} {X : String}
theorem stop_S {Q : Option Value → Shared → Prop} (R : RaisedS base G (envOf name scope L a cd :: outer) e (.type X) t vs news s.heap) (hsm : G.UpToSlots s.heap) (F : Fr g L G m) (K : Below A₀ base outer g)
    (hsub : isSubtype (.type X) (.type "StopIteration") = pure true)
    (k : ∀ g', KtsTurn (outer.filterMap (·.frame)) g g' → Below A₀ base outer g' → Fr g' L s.heap m → News g' L s.heap news → Q none s) : OwitStop M A Q E (.ref e) s := by
  obtain ⟨⟨B, hB, hBG, hl, hfl, hnew⟩, htup⟩ := R
  have hL : B.get? L = none := by
    obtain ⟨_, ⟨L', _, hf, hn', _⟩, _⟩ := hfl.2.2.1
    obtain rfl : L = L' := Option.some.inj hf
    exact hn'
  obtain ⟨g', T', F', K'⟩ := kts_ground K F hBG hfl.1 hsm
  obtain ⟨ob, hob, hobc⟩ := hfl.there
  have hT : s.TypeIs (.ref e) X := (show ∃ o, s.heap.get? e = some o ∧ o.cls = .type X from ⟨ob, hob, hobc⟩)
  unfold OwitStop
  refine wpAny_isInstance hT hsub ?_
  show (if true = true then Q none s else E (.ref e) s)
  rw [if_pos rfl]
  exact k g' T' K' F' fun q hq => ⟨hfl.1 _ _ (hl q hq).1, (fun z => by have := (hl q hq).1; rw [z, hL] at this; cases this), T'.none_ _ (kts_none F.keep (hl q hq).2.1)⟩
theorem nostop_SN {Q : Option Value → Shared → Prop} {l : List Env} (R : RaisedSN base G l e (.type X) news s.heap)
    (hsub : isSubtype (.type X) (.type "StopIteration") = pure false) (k : E (.ref e) s) : OwitStop M A Q E (.ref e) s := by
  obtain ⟨B, a0, hB, hBG, hl, hfl⟩ := R
  obtain ⟨ob, hob, hobc⟩ := hfl.there
  have hT : s.TypeIs (.ref e) X := (show ∃ o, s.heap.get? e = some o ∧ o.cls = .type X from ⟨ob, hob, hobc⟩)
  unfold OwitStop
  refine wpAny_isInstance hT hsub ?_
  exact k
end
theorem sub_stop : isSubtype (.type "StopIteration") (.type "StopIteration") = pure true := by rw [isSubtype_type]; kernel_rfl
theorem sub_val : isSubtype (.type "ValueError") (.type "StopIteration") = pure false := by rw [isSubtype_type]; kernel_rfl
abbrev txts (ws : List (List Nat)) : List Str := ws.map fun w => (⟨w.toArray⟩ : Str)
section
variable {w : World} {mean : ExcName → Option Value} {mg mb : Str → Option Value} {dp un : Nat} {gd : Option (List Code)} {cn : Str} {cs : Scope} {a : Addr} {ccd : Value} {outer : List Env} {A₀ : Around} {base h₀ : Heap} {L : Addr} {m : Str → Option Value} {news : List (Addr × Obj)} {s₀ : Shared} {R : Result → Shared → Prop}
  {lex dlex io dio pb fs S : Nat} {x W : Str} {τ σ : Nat → Tok} {res : Value}
theorem ext_loop {post : List Nat} {st : St} {r : Option (List (List Nat))} (hL : Lexes post st r)
    (B : Below A₀ base outer h₀) (X : (K w.params).In h₀) (T : Top q loose mean mg mb h₀) (hk : cs.kind = .function)
    (hbs : ∀ c ∈ x.cps.toList, (Str.ofString "\\").cps.toList.contains c = false) (hW : ∀ c, isQt c = true → W.cps.toList.contains c = false) (hsz : x.length ≤ 1000)
    (hS1 : @LT.lt Nat _ io S) (hS2 : ∀ p ∈ ((pb, dqE) :: (fs, dqE) :: news), p.1 ≠ S)
    (hn1 : ∀ p ∈ ((pb, dqE) :: (fs, dqE) :: news), p.1 ≠ dio) (hne2 : ∀ p ∈ ((pb, dqE) :: (fs, dqE) :: news), p.1 ≠ dlex) (h12 : @LT.lt Nat _ dlex lex) (h13 : @LT.lt Nat _ lex dio) (h14 : @LT.lt Nat _ dio io)
    (hd : dp + 7 < recursionLimit) (hu : un + 70 < cLine)
    (hX : r = none → ∀ gg h' e tk', Fr h₀ L gg m → gg.UpToSlots h' → RaisedSN base gg (envOf cn cs L a ccd :: outer) e (.type "ValueError") news h' → R (.error (.ref e)) { s₀ with heap := h', toks := tk' }) :
    ∀ (pre : List Nat) (u tl tt ts : Tok) (ln : Int) (acc : List Value) (c : Nat) (h : Heap) (tk : Nat), Fr h₀ L h m → News h₀ L h (Mine.led w.params W x τ σ lex dlex io dio pb fs (pre.length : Nat) u (stV st ts) ln tl "" tt ((pb, dqE) :: (fs, dqE) :: (S, lst acc c) :: news)) →
      x.cps.toList = pre ++ post → (st = .sp ∨ st = .dead ∧ post = []) → acc.length ≤ pre.length →
      (∀ ws, r = some ws → ∀ vs c' h₀' h' tk', StrsAre vs (txts ws) → KtsTurn (outer.filterMap (·.frame)) h₀ h₀' → Below A₀ base outer h₀' → Fr h₀' L h' m → News h₀' L h' ((S, lst (acc ++ vs) c') :: news) → R (.ok (.ret res)) { s₀ with heap := h', toks := tk' }) →
      codeAny (model pw w) (ktrTop dp un gd cn cs L a ccd [] outer) (.builtin "list.extend.loop" ⟨[.ref S, .ref lex, res], []⟩) R { s₀ with heap := h, toks := tk } := by
  have hn1' : ∀ acc c, ∀ p ∈ ((pb, dqE) :: (fs, dqE) :: (S, lst acc c) :: news), p.1 ≠ dio := by
    intro acc c p hp
    simp only [List.mem_cons] at hp
    rcases hp with rfl | rfl | rfl | hp
    · exact hn1 _ (by simp)
    · exact hn1 _ (by simp)
    · show @Ne Nat S dio; omega
    · exact hn1 _ (by simp [hp])
  have hn2' : ∀ acc c, ∀ p ∈ ((pb, dqE) :: (fs, dqE) :: (S, lst acc c) :: news), p.1 ≠ dlex := by
    intro acc c p hp
    simp only [List.mem_cons] at hp
    rcases hp with rfl | rfl | rfl | hp
    · exact hne2 _ (by simp)
    · exact hne2 _ (by simp)
    · show @Ne Nat S dlex; omega
    · exact hne2 _ (by simp [hp])
  have hlen : x.length = x.cps.toList.length := by show x.cps.size = _; rw [Array.length_toList]
  have hfn : findIn (K w.params) (.ref 722) "__next__" = some (some (.ref 719)) := by k_is
  have hif : isFn (K w.params) (.ref 719) = true := by k_is
  induction hL with
  | @err post st he =>
    intro pre u tl tt ts ln acc c h tk Fh N hx hst hac hR
    have G : Good (⟨st, [], false, pre, post, u, tl, tt, ts, 0, ln⟩ : Sg) x (lexRun post st [] false) := ⟨hx, by simp, rfl, inv_start hst⟩
    have N2 : News h₀ L h (Sg.led (⟨st, [], false, pre, post, u, tl, tt, ts, 0, ln⟩ : Sg) w.params W x τ σ lex dlex io dio pb fs ((pb, dqE) :: (fs, dqE) :: (S, lst acc c) :: news)) := by
      show News _ _ _ (Mine.led w.params W x τ σ lex dlex io dio pb fs (pre.length : Nat) u (stV st ts) ln tl ⟨([] : List Nat).toArray⟩ tt _)
      rw [nilE]; exact N
    refine codeAny_builtin PySem.F.entry_extend_loop ?_
    rw [Around.under_plainId PySem.F.plain_extend_loop _]
    show wpAny _ _ (pyNext (.ref lex) >>= _) _ _ _
    have I := InstAt.of_news N (x := lex) (C := 722) (dx := dlex) (sl := #[]) (by simp [led, instObj]) (List.mem_cons_of_mem _ (List.mem_cons_of_mem _ (List.mem_cons_of_mem _ List.mem_cons_self)))
    refine wpAny_bind (owit_next Fh X I hfn hif (next_c (un := un + 1) (s := { s₀ with heap := h, toks := tk }) B Fh X N2 T hk G rfl hbs hW hsz (hn1' acc c) (hn2' acc c) h12 h13 h14 (by omega) (by omega) ?_ ?_ ?_))
    · intro tok qd t st' pre' post' u' tl' tt' ts' ln' h' tk' e; rw [he] at e; cases e
    · intro st' post' e; rw [he] at e; cases e
    · intro e gg h' ex tk' Fg hg Rg
      refine nostop_SN Rg sub_val ?_
      exact hX rfl gg h' ex tk' Fg hg (raisedSN_sub (by intro q hq; simp [hq]) Rg)
  | @stop post st st' post' he =>
    intro pre u tl tt ts ln acc c h tk Fh N hx hst hac hR
    have G : Good (⟨st, [], false, pre, post, u, tl, tt, ts, 0, ln⟩ : Sg) x (lexRun post st [] false) := ⟨hx, by simp, rfl, inv_start hst⟩
    have N2 : News h₀ L h (Sg.led (⟨st, [], false, pre, post, u, tl, tt, ts, 0, ln⟩ : Sg) w.params W x τ σ lex dlex io dio pb fs ((pb, dqE) :: (fs, dqE) :: (S, lst acc c) :: news)) := by
      show News _ _ _ (Mine.led w.params W x τ σ lex dlex io dio pb fs (pre.length : Nat) u (stV st ts) ln tl ⟨([] : List Nat).toArray⟩ tt _)
      rw [nilE]; exact N
    refine codeAny_builtin PySem.F.entry_extend_loop ?_
    rw [Around.under_plainId PySem.F.plain_extend_loop _]
    show wpAny _ _ (pyNext (.ref lex) >>= _) _ _ _
    have I := InstAt.of_news N (x := lex) (C := 722) (dx := dlex) (sl := #[]) (by simp [led, instObj]) (List.mem_cons_of_mem _ (List.mem_cons_of_mem _ (List.mem_cons_of_mem _ List.mem_cons_self)))
    refine wpAny_bind (owit_next Fh X I hfn hif (next_c (un := un + 1) (s := { s₀ with heap := h, toks := tk }) B Fh X N2 T hk G rfl hbs hW hsz (hn1' acc c) (hn2' acc c) h12 h13 h14 (by omega) (by omega) ?_ ?_ ?_))
    · intro tok qd t st' pre' post' u' tl' tt' ts' ln' h' tk' e hw; rw [he] at e; cases e; simp at hw
    · intro st' post' e gg h' ex t tk' Fg hg Rg
      refine stop_S Rg hg Fg B sub_stop ?_
      intro g' T' K' F' N'
      refine wpAny_pure ?_
      refine hR [] rfl [] c g' h' tk' .nil T' K' F' ?_
      rw [List.append_nil]
      exact fun q hq => N' q (List.mem_cons_of_mem _ (List.mem_cons_of_mem _ hq))
    · intro e; rw [he] at e; cases e
  | @word post st tok qd st' post' r he hw hL ih =>
    intro pre u tl tt ts ln acc c h tk Fh N hx hst hac hR
    have G : Good (⟨st, [], false, pre, post, u, tl, tt, ts, 0, ln⟩ : Sg) x (lexRun post st [] false) := ⟨hx, by simp, rfl, inv_start hst⟩
    have N2 : News h₀ L h (Sg.led (⟨st, [], false, pre, post, u, tl, tt, ts, 0, ln⟩ : Sg) w.params W x τ σ lex dlex io dio pb fs ((pb, dqE) :: (fs, dqE) :: (S, lst acc c) :: news)) := by
      show News _ _ _ (Mine.led w.params W x τ σ lex dlex io dio pb fs (pre.length : Nat) u (stV st ts) ln tl ⟨([] : List Nat).toArray⟩ tt _)
      rw [nilE]; exact N
    refine codeAny_builtin PySem.F.entry_extend_loop ?_
    rw [Around.under_plainId PySem.F.plain_extend_loop _]
    show wpAny _ _ (pyNext (.ref lex) >>= _) _ _ _
    have I := InstAt.of_news N (x := lex) (C := 722) (dx := dlex) (sl := #[]) (by simp [led, instObj]) (List.mem_cons_of_mem _ (List.mem_cons_of_mem _ (List.mem_cons_of_mem _ List.mem_cons_self)))
    refine wpAny_bind (owit_next Fh X I hfn hif (next_c (un := un + 1) (s := { s₀ with heap := h, toks := tk }) B Fh X N2 T hk G rfl hbs hW hsz (hn1' acc c) (hn2' acc c) h12 h13 h14 (by omega) (by omega) ?_ ?_ ?_))
    · intro tok1 qd1 t st1 pre1 post1 u1 tl1 tt1 ts1 ln1 h1 tk1 e1 hw1 F1 N1 hx1
      rw [he] at e1
      cases e1
      have hsh := lexRun_short hst he hw
      have hst' := (lexRun_len _ _ _ _ _ _ _ _ he).2
      have hpl : pre1.length + post'.length = pre.length + post.length := by
        have h1 := congrArg List.length hx
        have h2 := congrArg List.length hx1
        simp only [List.length_append] at h1 h2
        omega
      have hal : acc.length ≤ 1000 := by
        have h1 := congrArg List.length hx
        simp only [List.length_append] at h1
        omega
      have hS' : h1.get? S = some (lst acc c) := N1.get (by simp)
      show wpAny _ _ (updateSeq S (·.push (.str ⟨tok.toArray⟩ t)) >>= _) _ _ _
      refine wpAny_bind ?_
      refine wpAny_updateSeq hS' rfl (wpAny_pure ⟨plainId_quiet PySem.F.plain_extend_loop _, ?_⟩) (by simp [sizeLine]; omega) (by simp [sizeLine]; omega)
      have hsb := Heap.SameBut.update h1 S (Obj.mapSeq (·.push (.str ⟨tok.toArray⟩ t)))
      have hnew := Heap.get?_update_self (Obj.mapSeq (·.push (.str ⟨tok.toArray⟩ t))) hS' rfl
      have hnew' : (h1.update S (Obj.mapSeq (·.push (.str ⟨tok.toArray⟩ t)))).get? S = some (lst (acc ++ [.str ⟨tok.toArray⟩ t]) (c + 1)) := by
        rw [hnew]; simp [Obj.mapSeq]
      have hS3 : ∀ p ∈ news, p.1 ≠ S := fun p hp => hS2 p (by simp [hp])
      have hown : ∀ p ∈ ([(io, instObj 587 dio), (dio, dictOf (ioE w.params x σ (pre1.length : Nat) u1) 3), (lex, instObj 722 dlex), (dlex, dictOf (lexE w.params W τ io pb fs (stV st' ts1) ln1 tl1 "" tt1) 19), (pb, dqE), (fs, dqE)] : List (Addr × Obj)), p.1 ≠ S := by
        intro p hp
        simp only [List.mem_cons, List.not_mem_nil, or_false] at hp
        rcases hp with rfl | rfl | rfl | rfl | rfl | rfl
        · show @Ne Nat io S; omega
        · show @Ne Nat dio S; omega
        · show @Ne Nat lex S; omega
        · show @Ne Nat dlex S; omega
        · exact hS2 _ (by simp)
        · exact hS2 _ (by simp)
      have N3 := News.setAt (own := [(io, instObj 587 dio), (dio, dictOf (ioE w.params x σ (pre1.length : Nat) u1) 3), (lex, instObj 722 dlex), (dlex, dictOf (lexE w.params W τ io pb fs (stV st' ts1) ln1 tl1 "" tt1) 19), (pb, dqE), (fs, dqE)]) (d := S) (rest := news) N1 hown hS3 hsb hnew'
      rw [List.cons_append, List.cons_append, List.cons_append, List.cons_append, List.cons_append, List.cons_append, List.nil_append] at N3
      have F3 := Fr.update (a := S) F1 N1 (o := lst acc c) (by simp) hsb
      refine ih (fun e => hX (by rw [e]; rfl)) pre1 u1 tl1 tt1 ts1 ln1 (acc ++ [.str ⟨tok.toArray⟩ t]) (c + 1) _ tk1 F3 N3 hx1 hst' (by simp; omega) ?_
      intro ws ew vs c' h₀' h' tk' hv T' K' F' N'
      refine hR (tok :: ws) (by rw [ew]; rfl) (.str ⟨tok.toArray⟩ t :: vs) c' h₀' h' tk' (.cons _ _ hv) T' K' F' ?_
      rw [List.append_assoc] at N'
      exact N'
    · intro st' post' e; rw [he] at e; cases e; simp at hw
    · intro e; rw [he] at e; cases e
end
end Mine
end
section
open Lean Meta Elab PySem PySem.W PyProof.Rows
set_option maxRecDepth 100000
set_option maxHeartbeats 0
set_option Elab.async false
set_option linter.unusedVariables false
namespace Mine
theorem fillK : (fun (_ : Params → Frag) (_ : OpenLaw) => True) K rw1 := by k_fill; trivial
section
variable {w : World} {mean : ExcName → Option Value} {mg mb : Str → Option Value} {dp un : Nat} {gd : Option (List Code)} {cn : Str} {cs : Scope} {a : Addr} {ccd : Value} {cl : List (Str × Addr)} {outer : List Env} {A₀ : Around} {base h₀ : Heap} {L : Addr} {m : Str → Option Value} {news : List (Addr × Obj)} {s : Shared} {Q E : Value → Shared → Prop}
  {lex dlex io dio pb fs : Nat} {x W : Str} {τ σ : Nat → Tok}
theorem iter_c
    (B : Below A₀ base outer h₀) (F : Fr h₀ L s.heap m) (X : (K w.params).In h₀) (N : News h₀ L s.heap news) (T : Top q loose mean mg mb h₀) (hk : cs.kind = .function)
    (hd : dp + 1 < recursionLimit) (hu : un + 8 < cLine)
    (hret : ∀ h' tk', Fr h₀ L h' m → News h₀ L h' news → Q (.ref lex) { s with heap := h', toks := tk' }) :
    wpAny (model pw w) (ktrTop dp un gd cn cs L a ccd cl outer) (call (.ref 712) [.ref lex]) Q E s := by
  refine wpAny_call ?_
  k_dflt (walk_at "c_enter")
  k_steps
  all_goals exact hret _ _ (by k_asm) (by k_asm)
theorem list_c {post : List Nat} {st : St} {r : Option (List (List Nat))} {pre : List Nat} {u tl tt ts : Tok} {ln : Int} (hL : Lexes post st r)
    (B : Below A₀ base outer h₀) (F : Fr h₀ L s.heap m) (X : (K w.params).In h₀) (N : News h₀ L s.heap (Mine.led w.params W x τ σ lex dlex io dio pb fs (pre.length : Nat) u (stV st ts) ln tl "" tt ((pb, dqE) :: (fs, dqE) :: news))) (T : Top q loose mean mg mb h₀) (hk : cs.kind = .function)
    (hbs : ∀ c ∈ x.cps.toList, (Str.ofString "\\").cps.toList.contains c = false) (hW : ∀ c, isQt c = true → W.cps.toList.contains c = false) (hsz : x.length ≤ 1000)
    (hn1 : ∀ p ∈ ((pb, dqE) :: (fs, dqE) :: news), p.1 ≠ dio) (hne2 : ∀ p ∈ ((pb, dqE) :: (fs, dqE) :: news), p.1 ≠ dlex) (h12 : @LT.lt Nat _ dlex lex) (h13 : @LT.lt Nat _ lex dio) (h14 : @LT.lt Nat _ dio io)
    (hd : dp + 7 < recursionLimit) (hu : un + 80 < cLine)
    (hx : x.cps.toList = pre ++ post) (hst : st = .sp ∨ st = .dead ∧ post = [])
    (hret : ∀ ws, r = some ws → ∀ S vs c' h₀' h' tk', StrsAre vs (txts ws) → KtsTurn (outer.filterMap (·.frame)) h₀ h₀' → Below A₀ base outer h₀' → Fr h₀' L h' m → News h₀' L h' ((S, lst vs c') :: news) → Q (.ref S) { s with heap := h', toks := tk' })
    (hX : r = none → ∀ gg h' e tk', Fr h₀ L gg m → gg.UpToSlots h' → RaisedSN base gg (envOf cn cs L a ccd :: outer) e (.type "ValueError") news h' → E (.ref e) { s with heap := h', toks := tk' }) :
    wpAny (model pw w) (ktrTop dp un gd cn cs L a ccd [] outer) (call (.type "list") [.ref lex]) Q E s := by
  refine callType_codes (Q₁ := fun obj s₁ => obj = .ref s.heap.objs.size ∧ s₁ = { s with heap := s.heap.push { cls := .type "list", data := .seq #[] } }) PySem.F.called_list (PySem.F.typeCall_list_1 _) PySem.F.entry_list_init
    (code_list_new _ ⟨rfl, rfl⟩) fun obj s₁ h₁ => ?_
  obtain ⟨rfl, rfl⟩ := h₁
  have hS : (s.heap.push { cls := .type "list", data := .seq #[] }).get? s.heap.objs.size = some { cls := .type "list", data := .seq #[] } := Heap.get?_push_size _ rfl
  refine ⟨⟨_, hS, rfl⟩, PySem.F.args_list_init_2 _ _, ?_⟩
  have F1 := F.push { cls := .type "list", data := .seq #[] }
  have N1 := News.push F N { cls := .type "list", data := .seq #[] }
  have hlt : ∀ p ∈ (Mine.led w.params W x τ σ lex dlex io dio pb fs (pre.length : Nat) u (stV st ts) ln tl "" tt ((pb, dqE) :: (fs, dqE) :: news)), p.1 < s.heap.objs.size := fun p hp => Heap.lt_size (N p hp).1
  generalize hSz : s.heap.objs.size = S at *
  generalize hH : s.heap.push { cls := .type "list", data := .seq #[] } = H at *
  have hlen : x.length = x.cps.toList.length := by show x.cps.size = _; rw [Array.length_toList]
  have hit : findIn (K w.params) (.ref 722) "__iter__" = some (some (.ref 712)) := by k_is
  have hfn : findIn (K w.params) (.ref 722) "__next__" = some (some (.ref 719)) := by k_is
  have hif : isFn (K w.params) (.ref 712) = true := by k_is
  have hle : findIn (K w.params) (.ref 722) "__len__" = some none := by k_is
  have hhi : findIn (K w.params) (.ref 722) "__length_hint__" = some none := by k_is
  show wpAny _ _ (do let old ← Builtin.List.listItems (.ref S); Builtin.List.listUpdate (.ref S) (fun _ => #[]); letGo old.toList.reverse; Builtin.List.listExtendWith (.ref S) (.ref lex) .none) _ _ _
  refine wpAny_bind ?_
  unfold Builtin.List.listItems
  refine wpAny_bind (wpAny_seqItems hS rfl (wpAny_pure ?_))
  show wpAny _ _ (updateSeq S (fun _ => #[]) >>= fun _ => letGo (#[] : Array Value).toList.reverse >>= fun _ => Builtin.List.listExtendWith (.ref S) (.ref lex) .none) _ _ _
  refine wpAny_bind (wpAny_updateSeq hS rfl ?_)
  refine wpAny_bind (wpAny_letGo ?_)
  have hlx : lex < S := hlt (lex, instObj 722 dlex) (by simp)
  have hioS : io < S := hlt (io, instObj 587 dio) (by simp)
  have hap : ∀ p ∈ (Mine.led w.params W x τ σ lex dlex io dio pb fs (pre.length : Nat) u (stV st ts) ln tl "" tt ((pb, dqE) :: (fs, dqE) :: news)), p.1 ≠ S := fun p hp => Nat.ne_of_lt (hlt p hp)
  have step : ∀ (H : Heap) (f : Array Value → Array Value) (c : Nat) (acc : Array Value) (acc' : List Value) (c' : Nat), Fr h₀ L H m → News h₀ L H ((S, { cls := .type "list", data := .seq acc c }) :: (Mine.led w.params W x τ σ lex dlex io dio pb fs (pre.length : Nat) u (stV st ts) ln tl "" tt ((pb, dqE) :: (fs, dqE) :: news))) →
      (Obj.mapSeq f { cls := .type "list", data := .seq acc c }) = lst acc' c' →
      Fr h₀ L (H.update S (Obj.mapSeq f)) m ∧ News h₀ L (H.update S (Obj.mapSeq f)) ((S, lst acc' c') :: (Mine.led w.params W x τ σ lex dlex io dio pb fs (pre.length : Nat) u (stV st ts) ln tl "" tt ((pb, dqE) :: (fs, dqE) :: news))) := by
    intro H f c acc acc' c' F N e
    have hsb := Heap.SameBut.update H S (Obj.mapSeq f)
    have hg := Heap.get?_update_self (Obj.mapSeq f) (N.get List.mem_cons_self) rfl
    rw [e] at hg
    exact ⟨Fr.update (a := S) F N List.mem_cons_self hsb, N.setHead hap hsb hg⟩
  obtain ⟨F2, N2⟩ := step H (fun _ => #[]) 0 #[] [] 0 F1 N1 rfl
  show wpAny _ _ _ _ _ { s with heap := H.update S (Obj.mapSeq fun x => #[]) }
  generalize H.update S (Obj.mapSeq fun x => #[]) = H2 at *
  have inst : ∀ {H : Heap} {o : Obj}, News h₀ L H ((S, o) :: (Mine.led w.params W x τ σ lex dlex io dio pb fs (pre.length : Nat) u (stV st ts) ln tl "" tt ((pb, dqE) :: (fs, dqE) :: news))) → InstAt H lex (instObj 722 dlex) 722 (some (dictOf (lexE w.params W τ io pb fs (stV st ts) ln tl "" tt) 19)) := fun N =>
    InstAt.of_news N (x := lex) (C := 722) (dx := dlex) (sl := #[]) (by simp [led, instObj]) (by simp)
  unfold Builtin.List.listExtendWith
  refine wpAny_bind ((inst N2).type.here ?_)
  have h1 : Builtin.List.listSameRef (.ref S) (.ref lex) = false := by show (S == lex) = false; exact beq_eq_false_iff_ne.mpr (Nat.ne_of_gt hlx)
  have h2 : (Value.ref 722 == Value.type "list") = false := by decide
  have h3 : (Value.ref 722 == Value.type "tuple") = false := by decide
  simp only [h1, h2, h3, Bool.or_false, Bool.false_eq_true, if_false]
  refine wpAny_bind (owit_iter F2 X (inst N2) hit hif (iter_c (dp := dp) (un := un + 2) (s := { s with heap := H2 }) B F2 X N2 T hk (by omega) (by omega) ?_))
  intro h' tk' F3 N3
  refine owit_it F3 X (inst N3) hfn ?_
  refine wpAny_bind (wpAny_holding ?_)
  unfold Builtin.List.listLengthHint
  refine wpAny_bind (wpAny_bind ((inst N3).type.here ((looks_findIn (X.keeps F3.keep) hle).here ?_)))
  show wpAny _ _ (specialOf (Value.ref lex) (Str.ofString "__length_hint__") >>= _) _ _ _
  refine wpAny_bind (wpAny_bind ((inst N3).type.here ((looks_findIn (X.keeps F3.keep) hhi).here ?_)))
  refine wpAny_pure ?_
  show wpAny _ _ (rule "list.extend.makes-room" >>= fun _ => Builtin.List.listTouch (.ref S) >>= fun _ =>
    again (.builtin "list.extend.loop" ⟨[.ref S, .ref lex, .none], []⟩)) _ _ _
  refine wpAny_bind (wpAny_rule ?_)
  refine wpAny_bind ?_
  show wpAny _ _ (updateSeq S (·.push .none) >>= fun _ => updateSeq S (·.pop)) _ _ _
  refine wpAny_bind (wpAny_updateSeq (N3.get List.mem_cons_self) rfl ?_)
  obtain ⟨F4, N4⟩ := step h' (·.push .none) 0 _ [.none] 1 F3 N3 rfl
  refine wpAny_updateSeq (hz := by seq_fits) (N4.get List.mem_cons_self) rfl ?_
  obtain ⟨F5, N5⟩ := step _ (·.pop) 1 _ [] 2 F4 N4 rfl
  refine wpAny_pure ⟨plainId_quiet PySem.F.plain_extend_loop _, ?_⟩
  have N6 : News h₀ L ((h'.update S (Obj.mapSeq (·.push .none))).update S (Obj.mapSeq (·.pop))) (Mine.led w.params W x τ σ lex dlex io dio pb fs (pre.length : Nat) u (stV st ts) ln tl "" tt ((pb, dqE) :: (fs, dqE) :: (S, lst [] 2) :: news)) := by
    intro p hp
    apply N5
    simp only [List.mem_cons] at hp ⊢
    grind
  refine ext_loop (un := un + 1) (s₀ := s) hL B X T hk hbs hW hsz hioS (fun p hp => hap p (by simp only [List.mem_cons] at hp ⊢; grind)) hn1 hne2 h12 h13 h14 hd (by omega) ?_ pre u tl tt ts ln [] 2 _ tk' F5 N6 hx hst (by simp) ?_
  · intro e gg h' ex tk' Fg hg R
    exact hX e gg h' ex tk' Fg hg R
  · intro ws e vs c' h₀' h' tk' hv T' K' F' N'
    exact ⟨rfl, hret ws e S vs c' h₀' h' tk' hv T' K' F' N'⟩
end
end Mine
end
section
open Lean Meta Elab PySem PySem.W PyProof.Rows
set_option maxRecDepth 100000
set_option maxHeartbeats 0
set_option Elab.async false
set_option linter.unusedVariables false
namespace Mine
theorem fillL : (fun (_ : Params → Frag) (_ : OpenLaw) => True) K rw1 := by k_fill; trivial
section
variable {w : World} {A : Around} {R : Result → Shared → Prop} {h : Heap} {g : Array GenState} {d : Drawn} {t : Nat} {os : OsState}
theorem here587 (X : (K w.params).In h) : Looks (model pw w) h (Bind.madeHere "object.__new__" (.ref 587)) () := Looks.of_peek X (by kernel_rfl)
theorem made587 (X : (K w.params).In h) : Looks (model pw w) h (Bind.madeBy (.ref 587)) none := Looks.of_peek X (by kernel_rfl)
theorem sub587 (X : (K w.params).In h) : Looks (model pw w) h (isSubtype (.ref 587) (.ref 587)) true := Looks.of_peek X (by kernel_rfl)
theorem call587 (X : (K w.params).In h) : Looks (model pw w) h (specialOf (.ref 587) "__call__") (some (.builtin "type.__call__")) := looks_specialIn X (by k_is)
theorem typ587 (X : (K w.params).In h) : Looks (model pw w) h (isInstance (.ref 587) (.type "type")) true := looks_instIn X (by k_is)
theorem ist587 (X : (K w.params).In h) : Looks (model pw w) h (isType (.ref 587)) true := Looks.of_peek X (by kernel_rfl)
theorem top587 (X : (K w.params).In h) : Looks (model pw w) h (isSubtype (.ref 587) (.type "object")) true := Looks.of_peek X (by kernel_rfl)
theorem base587 (X : (K w.params).In h) : Looks (model pw w) h (Bind.staticBase (.ref 587)) (.type "object") := Looks.of_peek X (by kernel_rfl)
theorem madeObj : Looks (model pw w) h (Bind.madeBy (.type "object")) (some "object.__new__") := Looks.of_peek (K := []) (fun _ _ e => nomatch e) (by kernel_rfl)
theorem cd587 (X : (K w.params).In h) : ∃ cd sl, h.get? 587 = some ⟨.type "type", none, .cls cd, sl⟩ ∧ cd.abstract = false ∧ cd.hasDel = false ∧ cd.mro.isEmpty = false :=
  ⟨_, _, X 587 _ (by k_is), rfl, rfl, rfl⟩
theorem objnew (X : (K w.params).In h)
    (hq : R (.ok (.ret (.ref (h.objs.size + 1)))) ⟨(h.push emptyDict).push (instObj 587 h.objs.size), g, d, t, os⟩) :
    codeAny (model pw w) A (.call (.builtin "object.__new__") ⟨[.ref 587], []⟩) R ⟨h, g, d, t, os⟩ := by
  obtain ⟨cd, sl, hC, e1, e2, e4⟩ := cd587 X
  have here := here587 X
  have ist := ist587 X
  have top := top587 X
  have base := base587 X
  have mo := madeObj (w := w) (h := h)
  have F := PySem.F.objNew
  refine codeAny_call_builtin_code (Code.quiet_builtin _ F.quiet) ?_
  simp only [checkBuiltinCall, F.kind, F.split, F.row]
  have args : Bind.checkArgs "object.__new__" ⟨.hand, "object.__new__", "__new__", .cls, []⟩ ⟨[.ref 587], []⟩ = pure () := by kernel_rfl
  rw [args]
  repeat (first | simp only [bne_self_eq_false, Bool.false_eq_true, if_false] | lk)
  refine codeAny_builtin F.entry ?_
  unfold Builtin.«object.__new__»
  have fin : ∀ A', wpAny (model pw w) A' (do
      let d ← if typeHasDict (.ref 587) then some <$> alloc { cls := .type "dict", data := .dict #[] } else pure none
      ret (← newObj (.ref 587) .plain d)) (fun fin s' => match fin with | .done f => R (.ok f) s' | .again c' => c'.quiet = true ∧ codeAny (model pw w) A c' R s') (fun e s' => R (.error e) s') ⟨h, g, d, t, os⟩ := by
    intro A'
    show wpAny _ _ ((alloc emptyDict >>= fun x => pure (some x)) >>= _) _ _ _
    refine wpAny_bind (wpAny_bind (wpAny_alloc (wpAny_pure (wpAny_bind ?_))))
    show wpAny _ _ (newObjAsIs _ _ _) _ _ _
    unfold newObjAsIs classHasDel
    refine wpAny_bind (wpAny_alloc (wpAny_bind (wpAny_bind (wpAny_load (Heap.get?_push_of_some _ (Heap.get?_push_of_some _ hC)) (wpAny_pure ?_)))))
    rw [e2]
    refine wpAny_pure (wpAny_pure ?_)
    show R _ _
    rw [Heap.size_push]
    exact hq
  repeat (first | simp only [e1, Bool.false_eq_true, if_false] | exact fin _ | lk)
end
section
variable {w : World} {mean : ExcName → Option Value} {mg mb : Str → Option Value} {dp un : Nat} {gd : Option (List Code)} {cn : Str} {cs : Scope} {a : Addr} {ccd : Value} {cl : List (Str × Addr)} {outer : List Env} {A₀ : Around} {base h₀ : Heap} {L : Addr} {m : Str → Option Value} {news : List (Addr × Obj)} {s : Shared} {Q E : Value → Shared → Prop} {x : Str} {t : Tok}
theorem getnew_c
    (B : Below A₀ base outer h₀) (F : Fr h₀ L s.heap m) (X : (K w.params).In h₀) (N : News h₀ L s.heap news) (T : Top q loose mean mg mb h₀) (hk : cs.kind = .function)
    (hd : dp + 1 < recursionLimit) (hu : un + 8 < cLine)
    (hret : ∀ h' tk', Fr h₀ L h' m → News h₀ L h' news → Q (.ref 80) { s with heap := h', toks := tk' }) :
    wpAny (model pw w) (ktrTop dp un gd cn cs L a ccd cl outer) (getAttr (.ref 587) "__new__") Q E s := by
  exact cls_sm (C := 587) (p := 84) (mc := .type "type") (f := .ref 80) (rest := []) F X (by k_is) (by k_is) (by first | k_is | kernel_rfl) (by first | k_is | kernel_rfl) (by first | k_is | kernel_rfl) (hret _ _ F N)
end
end Mine
end
section
open Lean Meta Elab PySem PySem.W PyProof.Rows
set_option maxRecDepth 100000
set_option maxHeartbeats 0
set_option Elab.async false
set_option linter.unusedVariables false
namespace Mine
theorem fillM : (fun (_ : Params → Frag) (_ : OpenLaw) => True) K rw1 := by k_fill; trivial
theorem low2 {a b : Addr × Obj} {news : List (Addr × Obj)} {d : Nat} (l : ∀ p ∈ (a :: b :: news), p.1 < d) : ∀ p ∈ news, p.1 < d := fun p hp => l p (List.mem_cons_of_mem _ (List.mem_cons_of_mem _ hp))
theorem news_d34 {h₀ h : Heap} {L : Addr} {p1 p2 a b : Addr × Obj} {news : List (Addr × Obj)} (N : News h₀ L h (p1 :: p2 :: a :: b :: news)) : News h₀ L h (p1 :: p2 :: news) := fun p hp => N p (by simp only [List.mem_cons] at hp ⊢; rcases hp with h | h | h <;> simp [h])
theorem objnewN {w : World} {A : Around} {s : Shared} {h₀ : Heap} {L : Addr} {m : Str → Option Value} {news : List (Addr × Obj)} {Q E : Value → Shared → Prop} (F : Fr h₀ L s.heap m) (N : News h₀ L s.heap news) (X : (K w.params).In h₀)
    (h : ∀ (x dx : Nat) h', Fr h₀ L h' m → News h₀ L h' ((x, instObj 587 dx) :: (dx, emptyDict) :: news) → (∀ p ∈ news, p.1 < dx) → dx < x → Q (.ref x) { s with heap := h' }) :
    wpAny (model pw w) A (call (.builtin "object.__new__") [.ref 587]) Q E s := by
  obtain ⟨hh, g, d, t, os⟩ := s
  refine wpAny_call (objnew (X.keeps F.keep) (h _ hh.objs.size _ ((F.push _).push _) ?_ (fun p hp => Heap.lt_size (N p hp).1) (Nat.lt_succ_self _)))
  have := (N.push F emptyDict).push (F.push _) (instObj 587 hh.objs.size)
  rwa [Heap.size_push] at this
local macro_rules | `(tactic| walk_at "c_both") => `(tactic| (refine' kp_both ?k1 ?k2 ?k3 ?k4 ?k5 ?kA ?kF ?kK ?k6 ?k7 ?k8 ?kV ?kX ?kQ ?kM ?kN ?kD ?kR ?kP ?kS ?kT ?kB ?_ ?c2 ?c3 ?c4 ?c5; (case kA => exact rfl); (case kF => exact rfl); (case kK => assumption); (case k1 => k_asm); (case k2 => k_asm); (case k3 => k_asm); (case k4 => k_asm); (case k5 => k_asm); (case k6 => k_is); (case k7 => k_is); (case k8 => ktr_room); (case kV => kp_lit); (case kX => kp_lit); (case kQ => exact rfl); (case kM => exact rfl); (case kN => exact rfl); (case kD => kp_flats); (case kR => exact rfl); (case kP => exact rfl); (case kS => exact fun _ => rfl); (case kT => exact fun _ _ => rfl); (case kB => exact fun _ _ => locs rfl); (case c5 => decide); (case c2 => exact rfl); (case c3 => exact rfl); (case c4 => exact rfl); k_whole; intro C' D' o' g' L' h' tk' l1 l2 lo' hs' fs' FG' F' N' B' X' T'; (try dsimp only); (try k_fold)))
local macro_rules | `(tactic| walk_at "call builtin:object.__new__") => `(tactic| (k_here; k_dflt (refine' objnewN ?rF ?rN ?rX ?_; (case rF => k_asm); (case rN => k_asm); (case rX => k_asm); k_whole); intro x9 d9 h9 F9 N9 l9 l8; (try dsimp only)))
section
variable {w : World} {mean : ExcName → Option Value} {mg mb : Str → Option Value} {dp un : Nat} {gd : Option (List Code)} {cn : Str} {cs : Scope} {a : Addr} {ccd : Value} {cl : List (Str × Addr)} {outer : List Env} {A₀ : Around} {base h₀ : Heap} {L : Addr} {m : Str → Option Value} {news : List (Addr × Obj)} {s : Shared} {Q E : Value → Shared → Prop} {x : Str} {t : Tok}
theorem new_c
    (B : Below A₀ base outer h₀) (F : Fr h₀ L s.heap m) (X : (K w.params).In h₀) (N : News h₀ L s.heap news) (T : Top q loose mean mg mb h₀) (hk : cs.kind = .function)
    (hd : dp + 1 < recursionLimit) (hu : un + 12 < cLine)
    (hret : ∀ (io dio : Nat) h' tk', dio < io → (∀ p ∈ news, p.1 < dio) → Fr h₀ L h' m → News h₀ L h' ((io, instObj 587 dio) :: (dio, emptyDict) :: news) → Q (.ref io) { s with heap := h', toks := tk' }) :
    wpAny (model pw w) (ktrTop dp un gd cn cs L a ccd cl outer) (call (.ref 80) [.ref 587, .str x t]) Q E s := by
  refine wpAny_call ?_
  k_dflt (walk_at "c_both")
  k_steps
  all_goals exact hret _ _ _ _ (by assumption) (low2 (by assumption)) (by k_asm) (news_d34 (by k_asm))
end
end Mine
end
section
open Lean Meta Elab PySem PySem.W PyProof.Rows
set_option maxRecDepth 100000
set_option maxHeartbeats 0
set_option Elab.async false
set_option linter.unusedVariables false
namespace Mine
theorem fillN : (fun (_ : Params → Frag) (_ : OpenLaw) => True) K rw1 := by k_fill; trivial
section
variable {w : World} {mean : ExcName → Option Value} {mg mb : Str → Option Value} {dp un : Nat} {gd : Option (List Code)} {cn : Str} {cs : Scope} {a : Addr} {ccd : Value} {cl : List (Str × Addr)} {outer : List Env} {A₀ : Around} {base h₀ : Heap} {L : Addr} {m : Str → Option Value} {news : List (Addr × Obj)} {s : Shared} {Q E : Value → Shared → Prop} {x : Str} {t : Tok}
theorem under587 : (ktrTop dp un gd cn cs L a ccd cl outer).under (.builtin "type.__call__" ⟨[.ref 587, .str x t], []⟩) = ktrTop (dp + 1) (un + 1) gd cn cs L a ccd cl outer := rfl
theorem mro587 {h : Heap} (X : (K w.params).In h) : Looks (model pw w) h (mroOf (.ref 587)) [.ref 587, .ref 110, .ref 83, .type "object"] := Looks.of_peek X (by kernel_rfl)
theorem make587
    (B : Below A₀ base outer h₀) (F : Fr h₀ L s.heap m) (X : (K w.params).In h₀) (N : News h₀ L s.heap news) (T : Top q loose mean mg mb h₀) (hk : cs.kind = .function)
    (hd : dp + 2 < recursionLimit) (hu : un + 14 < cLine)
    (hret : ∀ (io dio : Nat) h' tk', dio < io → (∀ p ∈ news, p.1 < dio) → Fr h₀ L h' m → News h₀ L h' ((io, instObj 587 dio) :: (dio, emptyDict) :: news) →
      wpAny (model pw w) (ktrTop (dp + 1) (un + 1) gd cn cs L a ccd cl outer) (call (.ref 357) [.ref io, .str x t]) (fun v s' => v = .none ∧ Q (.ref io) s') E { s with heap := h', toks := tk' }) :
    wpAny (model pw w) (ktrTop dp un gd cn cs L a ccd cl outer) (call (.ref 587) [.str x t]) Q E s := by
  have XH := X.keeps F.keep
  obtain ⟨cd, sl, hC, e1, e2, e4⟩ := cd587 XH
  have call := call587 XH
  have typ := typ587 XH
  have made := made587 XH
  have mro := mro587 XH
  refine wpAny_call (codeAny_of_tree ?_)
  show wpAny _ _ (callAny (.ref 587) _) _ _ _
  refine nd_load hC ?_
  show wpAny _ _ (callAny.viaDunder (.ref 587) _) _ _ _
  unfold callAny.viaDunder
  refine wpAny_bind (call.here ?_)
  dsimp only
  rw [tc_bind]
  refine wpAny_bind (wpAny_pure (wpAny_bind (wpAny_pure ?_)))
  refine wpAny_pure (a := Fin.again (.call (.builtin "type.__call__") ⟨[.ref 587, .str x t], []⟩)) (And.intro rfl ?_)
  refine codeAny_call_builtin_at (Code.quiet_builtin _ (by decide +kernel)) entry_typeCall (check_slot tc_kind tc_split typ (tc_args _ _ _) ?_)
  unfold Builtin.«type.__call__»
  rw [under587]
  refine wpAny_bind (mro.here ?_)
  refine wpAny_bind (made.here ?_)
  refine wpAny_bind (getnew_c (dp := dp + 1) (un := un + 1) B F X N T hk (by omega) (by omega) ?_)
  intro h1 tk1 F1 N1
  refine wpAny_bind (wpAny_holding (new_c (dp := dp + 1) (un := un + 1) (s := { s with heap := h1, toks := tk1 }) B F1 X N1 T hk (by omega) (by omega) ?_))
  intro io dio h2 tk2 l1 l2 F2 N2
  have I2 := InstAt.of_news N2 (x := io) (C := 587) (dx := dio) (sl := #[]) (by simp [instObj]) (by simp : (dio, emptyDict) ∈ _)
  refine wpAny_bind (wpAny_bind (I2.type.here ((sub587 (X.keeps F2.keep)).here ?_)))
  simp only [Bool.not_true, Bool.false_eq_true, if_false]
  refine wpAny_bind (wpAny_holding (special_fn (name := "__init__") (args := [.str x t]) (f := 357) (X.keeps F2.keep) I2 (by k_is) (by k_is) ?_))
  refine wpAny_mono (hret io dio h2 tk2 l1 l2 F2 N2) (fun v s' h' => ?_) (fun _ _ e => e)
  obtain ⟨rfl, hq⟩ := h'
  exact wpAny_pure hq
end
end Mine
end
section
open Lean Meta Elab PySem PySem.W PyProof.Rows
set_option maxRecDepth 100000
set_option maxHeartbeats 0
set_option Elab.async false
set_option linter.unusedVariables false
namespace Mine
theorem mro_dq : mroOf (.type "collections.deque") = pure [.type "collections.deque", .type "object"] := by rw [mroOf_type]; kernel_rfl
theorem lookup_dq_new : typeLookup (.type "collections.deque") "__new__" = pure (some (.builtin "collections.deque.__new__")) := by rw [typeLookup_type, builtinLookup_eq_fast]; kernel_rfl
theorem slot_dq_init : Slot "collections.deque" "__init__" "collections.deque.__init__" :=
  .of (owner := "collections.deque") (n := "__init__") (by rw [typeLookup_type, builtinLookup_eq_fast]; kernel_rfl) (by decide +kernel) (by decide +kernel) (by decide +kernel)
    (by first | exact .inl (by decide +kernel) | exact .inr (by decide +kernel)) (by rw [isSubtype_type]; kernel_rfl)
theorem called_dq : TypeCalled "collections.deque" "collections.deque.__new__" "collections.deque.__init__" :=
  ⟨by decide +kernel, by decide +kernel, ⟨_, _, mro_dq⟩, madeBy_type mro_dq lookup_dq_new (by decide +kernel), by decide +kernel, by rw [isSubtype_type]; kernel_rfl, slot_dq_init⟩
theorem typeCall_dq : checkTypeCall "collections.deque" ⟨[], []⟩ = pure () := by kernel_rfl
theorem newCall_dq : checkBuiltinCall "collections.deque.__new__" ⟨[.type "collections.deque"], []⟩ = pure () := by kernel_rfl
theorem entry_dq_new : entryFor table "collections.deque.__new__" = some Builtin.«collections.deque.__new__» := entryFor_of_tree (by kernel_rfl)
theorem entry_dq_init : entryFor table "collections.deque.__init__" = some Builtin.«collections.deque.__init__» := entryFor_of_tree (by kernel_rfl)
theorem plain_dq_new : plainId "collections.deque.__new__" = true := by decide +kernel
theorem args_dq_init (a : Value) : argsOk "collections.deque.__init__" ⟨[a], []⟩ := by unfold argsOk; kernel_rfl
theorem sub_dq_self : isSubtype (.type "collections.deque") (.type "collections.deque") = pure true := by rw [isSubtype_type]; kernel_rfl
section
variable {prog : Program} {w : World} {A : Around} {E : Value → Shared → Prop} {s : Shared}
theorem code_dq_new {Q₁ : Value → Shared → Prop}
    (h : Q₁ (.ref s.heap.objs.size) { s with heap := s.heap.push dqE }) :
    codeAny (model prog w) A (.call (.builtin "collections.deque.__new__") ⟨[.type "collections.deque"], []⟩) (wants Q₁ E) s := by
  refine codeAny_of_tree ?_
  show wpAny _ A.in1 (do checkBuiltinCall "collections.deque.__new__" ⟨[.type "collections.deque"], []⟩; again (.builtin "collections.deque.__new__" ⟨[.type "collections.deque"], []⟩)) _ _ s
  refine wpAny_bind (wpAny_of_eq newCall_dq (wpAny_pure ⟨plainId_quiet plain_dq_new _, codeAny_builtin entry_dq_new ?_⟩))
  rw [Around.under_plainId plain_dq_new _]
  have hsub : isSubtype (.type "collections.deque") (.type Builtin.Deque.ty) = pure true := sub_dq_self
  unfold Builtin.«collections.deque.__new__» Builtin.Deque.newArgs Builtin.Deque.new
  obtain ⟨hp, g, d, tk, os⟩ := s
  wp_walk
  exact h
theorem call_dq {Q : Value → Shared → Prop} (h : ∀ h', h'.get? s.heap.objs.size = some dqE → Heap.SameBut s.heap.objs.size (s.heap.push dqE) h' → Q (.ref s.heap.objs.size) { s with heap := h' }) :
    wpAny (model prog w) A (call (.type "collections.deque") []) Q E s := by
  refine callType_codes (Q₁ := fun obj s₁ => obj = .ref s.heap.objs.size ∧ s₁ = { s with heap := s.heap.push dqE }) called_dq typeCall_dq entry_dq_init
    (code_dq_new ⟨rfl, rfl⟩) fun obj s₁ h₁ => ?_
  obtain ⟨rfl, rfl⟩ := h₁
  have hS : (s.heap.push dqE).get? s.heap.objs.size = some dqE := Heap.get?_push_size _ rfl
  refine ⟨⟨_, hS, rfl⟩, args_dq_init _, ?_⟩
  show wpAny _ _ (setField (.ref s.heap.objs.size) 0 .none >>= fun _ => Builtin.Deque.clear (.ref s.heap.objs.size) >>= fun _ => ret .none) _ _ _
  refine wpAny_bind (wpAny_setField hS rfl (by decide) ?_)
  have hg : ((s.heap.push dqE).update s.heap.objs.size (Obj.mapFields (·.setIfInBounds 0 .none))).get? s.heap.objs.size = some dqE := by
    rw [Heap.get?_update_self _ hS rfl]; rfl
  have hs := Heap.SameBut.update (s.heap.push dqE) s.heap.objs.size (Obj.mapFields (·.setIfInBounds 0 .none))
  unfold Builtin.Deque.clear Builtin.Deque.items
  refine wpAny_bind (wpAny_bind (wpAny_bind (wpAny_fieldsOf hg rfl (wpAny_pure ?_))))
  exact wpAny_pure (wpAny_pure ⟨rfl, h _ hg hs⟩)
end
end Mine
end
section
open Lean Meta Elab PySem PySem.W PyProof.Rows
set_option maxRecDepth 100000
set_option maxHeartbeats 0
set_option Elab.async false
set_option linter.unusedVariables false
namespace Mine
theorem fillO : (fun (_ : Params → Frag) (_ : OpenLaw) => True) K rw1 := by k_fill; trivial
abbrev tk5 (a b c d e : Tok) : Nat → Tok := fun k => match k with | 0 => a | 1 => b | 2 => c | 3 => d | _ => e
local macro_rules | `(tactic| walk_at "execs") => `(tactic| (k_here; first | unfold fStringIO___init___b | unfold fStringIO___translated_b))
section
variable {w : World} {mean : ExcName → Option Value} {mg mb : Str → Option Value} {dp un : Nat} {gd : Option (List Code)} {cn : Str} {cs : Scope} {a : Addr} {ccd : Value} {cl : List (Str × Addr)} {outer : List Env} {A₀ : Around} {base h₀ : Heap} {L : Addr} {m : Str → Option Value} {news : List (Addr × Obj)} {s : Shared} {Q E : Value → Shared → Prop} {x : Str} {t : Tok} {io dio : Nat}
theorem sinit_c
    (B : Below A₀ base outer h₀) (F : Fr h₀ L s.heap m) (X : (K w.params).In h₀) (N : News h₀ L s.heap ((io, instObj 587 dio) :: (dio, emptyDict) :: news)) (T : Top q loose mean mg mb h₀) (hk : cs.kind = .function)
    (hne : ∀ p ∈ news, p.1 ≠ dio) (hio : dio < io)
    (hd : dp + 2 < recursionLimit) (hu : un + 20 < cLine)
    (hret : ∀ (σ : Nat → Tok) u h' tk', Fr h₀ L h' m → News h₀ L h' ((io, instObj 587 dio) :: (dio, dictOf (ioE w.params x σ 0 u) 3) :: news) → Q .none { s with heap := h', toks := tk' }) :
    wpAny (model pw w) (ktrTop dp un gd cn cs L a ccd cl outer) (call (.ref 357) [.ref io, .str x t]) Q E s := by
  refine wpAny_call ?_
  k_dflt (walk_at "c_enter")
  k_steps
  all_goals exact hret (tk5 _ _ _ _ _) _ _ _ (by k_asm) (by k_asm)
theorem sio_c
    (B : Below A₀ base outer h₀) (F : Fr h₀ L s.heap m) (X : (K w.params).In h₀) (N : News h₀ L s.heap news) (T : Top q loose mean mg mb h₀) (hk : cs.kind = .function)
    (hd : dp + 3 < recursionLimit) (hu : un + 24 < cLine)
    (hret : ∀ (io dio : Nat) (σ : Nat → Tok) u h' tk', dio < io → (∀ p ∈ news, p.1 < dio) → Fr h₀ L h' m → News h₀ L h' ((io, instObj 587 dio) :: (dio, dictOf (ioE w.params x σ 0 u) 3) :: news) → Q (.ref io) { s with heap := h', toks := tk' }) :
    wpAny (model pw w) (ktrTop dp un gd cn cs L a ccd cl outer) (call (.ref 587) [.str x t]) Q E s := by
  refine make587 B F X N T hk (by omega) (by omega) ?_
  intro io dio h1 tk1 l1 l2 F1 N1
  refine sinit_c (dp := dp + 1) (un := un + 1) (s := { s with heap := h1, toks := tk1 }) B F1 X N1 T hk (fun p hp => Nat.ne_of_lt (l2 p hp)) l1 (by omega) (by omega) ?_
  intro σ u h' tk' F2 N2
  exact ⟨rfl, hret io dio σ u h' tk' l1 l2 F2 N2⟩
end
end Mine
end
section
open Lean Meta Elab PySem PySem.W PyProof.Rows
set_option maxRecDepth 100000
set_option maxHeartbeats 0
set_option Elab.async false
set_option linter.unusedVariables false
namespace Mine
theorem fillP : (fun (_ : Params → Frag) (_ : OpenLaw) => True) K rw1 := by k_fill; trivial
abbrev lexG (P : Params) (W cm : Str) (ws : Bool) (τ : Nat → Tok) (io pb fs : Nat) (stv : Value) (ln : Int) (tl : Tok) (tok : Str) (tt : Tok) : List DictEntry :=
  [⟨PyData.keyHash P "instream", .str "instream" (τ 0), .ref io⟩, ⟨PyData.keyHash P "infile", .str "infile" (τ 1), .none⟩, ⟨PyData.keyHash P "posix", .str "posix" (τ 2), .bool true⟩, ⟨PyData.keyHash P "eof", .str "eof" (τ 3), .none⟩,
   ⟨PyData.keyHash P "commenters", .str "commenters" (τ 4), .str cm (τ 24)⟩, ⟨PyData.keyHash P "wordchars", .str "wordchars" (τ 5), .str W (τ 25)⟩, ⟨PyData.keyHash P "whitespace", .str "whitespace" (τ 6), .str " \t\r\n" (τ 26)⟩,
   ⟨PyData.keyHash P "whitespace_split", .str "whitespace_split" (τ 7), .bool ws⟩, ⟨PyData.keyHash P "quotes", .str "quotes" (τ 8), .str "'\"" (τ 28)⟩, ⟨PyData.keyHash P "escape", .str "escape" (τ 9), .str "\\" (τ 29)⟩,
   ⟨PyData.keyHash P "escapedquotes", .str "escapedquotes" (τ 10), .str "\"" (τ 30)⟩, ⟨PyData.keyHash P "state", .str "state" (τ 11), stv⟩, ⟨PyData.keyHash P "pushback", .str "pushback" (τ 12), .ref pb⟩, ⟨PyData.keyHash P "lineno", .str "lineno" (τ 13), .int ln tl⟩,
   ⟨PyData.keyHash P "debug", .str "debug" (τ 14), .int 0 (τ 34)⟩, ⟨PyData.keyHash P "token", .str "token" (τ 15), .str tok tt⟩, ⟨PyData.keyHash P "filestack", .str "filestack" (τ 16), .ref fs⟩, ⟨PyData.keyHash P "source", .str "source" (τ 17), .none⟩,
   ⟨PyData.keyHash P "_punctuation_chars", .str "_punctuation_chars" (τ 18), .str "" (τ 38)⟩]
abbrev tkL (l : List Tok) : Nat → Tok := fun k => l.getD k 0
abbrev wd1 : Str := "abcdfeghijklmnopqrstuvwxyzABCDEFGHIJKLMNOPQRSTUVWXYZ0123456789_"
abbrev wd2 : Str := "ßàáâãäåæçèéêëìíîïðñòóôõöøùúûüýþÿÀÁÂÃÄÅÆÇÈÉÊËÌÍÎÏÐÑÒÓÔÕÖØÙÚÛÜÝÞ"
theorem dqN {w : World} {A : Around} {s : Shared} {h₀ : Heap} {L : Addr} {m : Str → Option Value} {news : List (Addr × Obj)} {Q E : Value → Shared → Prop} (F : Fr h₀ L s.heap m) (N : News h₀ L s.heap news)
    (h : ∀ (d : Nat) h', Fr h₀ L h' m → News h₀ L h' ((d, dqE) :: news) → (∀ p ∈ news, p.1 < d) → Q (.ref d) { s with heap := h' }) :
    wpAny (model pw w) A (call (.type "collections.deque") []) Q E s :=
  call_dq fun h' hg hs => h _ h' (F.filled hs) (News.filled F N hs hg) fun p hp => Heap.lt_size (N p hp).1
local macro_rules | `(tactic| walk_at "call type:collections.deque") => `(tactic| (k_here; k_dflt (refine' dqN ?rF ?rN ?_; (case rF => k_asm); (case rN => k_asm); k_whole); intro d9 h9 F9 N9 l9; (try k_lt l9); (try dsimp only)))
local macro_rules | `(tactic| walk_at "call ref") => `(tactic| (k_here; k_dflt (refine' sio_c ?rB ?rF ?rX ?rN ?rT ?rK ?rd ?ru ?_; (case rB => k_asm); (case rF => k_asm); (case rX => k_asm); (case rN => k_asm); (case rT => k_asm); (case rK => first | exact rfl | assumption); (case rd => ktr_room); (case ru => ktr_units); k_whole); intro io9 dio9 s9 u9 h9 tk9 l9 l8 F9 N9; have l7 := low2 l8; (try k_lt l8); (try dsimp only)))
section
variable {w : World} {mean : ExcName → Option Value} {mg mb : Str → Option Value} {dp un : Nat} {gd : Option (List Code)} {cn : Str} {cs : Scope} {a : Addr} {ccd : Value} {cl : List (Str × Addr)} {outer : List Env} {A₀ : Around} {base h₀ : Heap} {L : Addr} {m : Str → Option Value} {news : List (Addr × Obj)} {s : Shared} {R : Result → Shared → Prop} {x : Str} {t : Tok} {lex dlex : Nat}
theorem linit_c
    (B : Below A₀ base outer h₀) (F : Fr h₀ L s.heap m) (X : (K w.params).In h₀) (N : News h₀ L s.heap ((lex, instObj 722 dlex) :: (dlex, emptyDict) :: news)) (T : Top q loose mean mg mb h₀) (hk : cs.kind = .function)
    (hne : ∀ p ∈ news, p.1 ≠ dlex) (hio : dlex < lex)
    (hd : dp + 5 < recursionLimit) (hu : un + 40 < cLine)
    (hret : ∀ (io dio pb fs : Nat) (σ τ : Nat → Tok) u ts tl tt h' tk', lex < dio → dio < io → io < pb → pb < fs → (∀ p ∈ news, p.1 < dio) → Fr h₀ L h' m →
      News h₀ L h' ((fs, dqE) :: (pb, dqE) :: (io, instObj 587 dio) :: (dio, dictOf (ioE w.params x σ 0 u) 3) :: (lex, instObj 722 dlex) :: (dlex, dictOf (lexG w.params (wd1 ++ wd2) "#" false τ io pb fs (.str " " ts) 1 tl "" tt) 19) :: news) → R (.ok (.ret .none)) { s with heap := h', toks := tk' }) :
    codeAny (model pw w) (ktrTop dp un gd cn cs L a ccd cl outer) (.call (.ref 646) ⟨[.ref lex, .str x t], [("posix", .bool true)]⟩) R s := by
  k_dflt (walk_at "c_enter")
  k_steps
  all_goals (refine' hret _ _ _ _ _ (tkL [_, _, _, _, _, _, _, _, _, _, _, _, _, _, _, _, _, _, _, 0, 0, 0, 0, 0, _, _, _, 0, _, _, _, 0, 0, 0, _, 0, 0, 0, _])  _ _ _ _ _ _ ?a1 ?a2 ?a3 ?a4 ?a5 ?a6 ?a7; (case a7 => k_asm); (case a6 => k_asm); (case a1 => omega); (case a2 => omega); (case a3 => omega); (case a4 => omega); (case a5 => first | assumption | exact low2 (by assumption) | trace_state))
end
end Mine
end
section
open Lean Meta Elab PySem PySem.W PyProof.Rows
set_option maxRecDepth 100000
set_option maxHeartbeats 0
set_option Elab.async false
set_option linter.unusedVariables false
namespace Mine
/-- the words of a text, read from the left: at a place (0, 39 or 34 open) with a word begun or none -/
def Wr : List Nat → Nat → Option (List Nat) → Option (List (List Nat))
  | [], 0, none => some []
  | [], 0, some w => some [w]
  | [], _ + 1, _ => none
  | c :: r, 0, none => if isWs c then Wr r 0 none else if isQt c then Wr r c (some []) else Wr r 0 (some [c])
  | c :: r, 0, some w => if isWs c then (Wr r 0 none).map (w :: ·) else if isQt c then Wr r c (some w) else Wr r 0 (some (w ++ [c]))
  | c :: r, d + 1, w => if c == d + 1 then Wr r 0 (some (w.getD [])) else Wr r (d + 1) (some (w.getD [] ++ [c]))
theorem lr_wd (c : Nat) (r tok : List Nat) (qd : Bool) : lexRun (c :: r) .wd tok qd = if isWs c then .fin tok qd .sp r else if isQt c then lexRun r (.q c) tok qd else lexRun r .wd (tok ++ [c]) qd := rfl
theorem lr_sp (c : Nat) (r tok : List Nat) (qd : Bool) : lexRun (c :: r) .sp tok qd = if isWs c then lexRun r .sp tok qd else if isQt c then lexRun r (.q c) tok qd else lexRun r .wd [c] qd := rfl
theorem lr_q (c d : Nat) (r tok : List Nat) (qd : Bool) : lexRun (c :: r) (.q d) tok qd = if c == d then lexRun r .wd tok true else lexRun r (.q d) (tok ++ [c]) true := rfl
theorem wr_n (c : Nat) (r : List Nat) : Wr (c :: r) 0 none = if isWs c then Wr r 0 none else if isQt c then Wr r c (some []) else Wr r 0 (some [c]) := rfl
theorem wr_s (c : Nat) (r w : List Nat) : Wr (c :: r) 0 (some w) = if isWs c then (Wr r 0 none).map (w :: ·) else if isQt c then Wr r c (some w) else Wr r 0 (some (w ++ [c])) := rfl
theorem wr_q (c d : Nat) (r w : List Nat) : Wr (c :: r) (d + 1) (some w) = if c == d + 1 then Wr r 0 (some w) else Wr r (d + 1) (some (w ++ [c])) := rfl
theorem qt_pos {d : Nat} (h : isQt d = true) : ∃ e, d = e + 1 := by
  rcases qt_cases h with rfl | rfl <;> exact ⟨_, rfl⟩
theorem run_wd : ∀ (post : List Nat) (tok : List Nat) (qd : Bool), (tok ≠ [] ∨ qd = true) →
    ((lexRun post .wd tok qd = .err ∧ Wr post 0 (some tok) = none) ∨ ∃ tok' qd' st' post', lexRun post .wd tok qd = .fin tok' qd' st' post' ∧ (tok' ≠ [] ∨ qd' = true) ∧ (st' = .sp ∨ st' = .dead ∧ post' = []) ∧ post'.length ≤ post.length ∧ Wr post 0 (some tok) = (Wr post' 0 none).map (tok' :: ·)) ∧
    ∀ d, isQt d = true → ((lexRun post (.q d) tok qd = .err ∧ Wr post d (some tok) = none) ∨ ∃ tok' qd' st' post', lexRun post (.q d) tok qd = .fin tok' qd' st' post' ∧ (tok' ≠ [] ∨ qd' = true) ∧ (st' = .sp ∨ st' = .dead ∧ post' = []) ∧ post'.length ≤ post.length ∧ Wr post d (some tok) = (Wr post' 0 none).map (tok' :: ·)) := by
  have : ∀ (n : Nat) (post : List Nat), post.length = n → ∀ (tok : List Nat) (qd : Bool),
    ((tok ≠ [] ∨ qd = true) → ((lexRun post .wd tok qd = .err ∧ Wr post 0 (some tok) = none) ∨ ∃ tok' qd' st' post', lexRun post .wd tok qd = .fin tok' qd' st' post' ∧ (tok' ≠ [] ∨ qd' = true) ∧ (st' = .sp ∨ st' = .dead ∧ post' = []) ∧ post'.length ≤ post.length ∧ Wr post 0 (some tok) = (Wr post' 0 none).map (tok' :: ·))) ∧
    ∀ d, isQt d = true → ((lexRun post (.q d) tok qd = .err ∧ Wr post d (some tok) = none) ∨ ∃ tok' qd' st' post', lexRun post (.q d) tok qd = .fin tok' qd' st' post' ∧ (tok' ≠ [] ∨ qd' = true) ∧ (st' = .sp ∨ st' = .dead ∧ post' = []) ∧ post'.length ≤ post.length ∧ Wr post d (some tok) = (Wr post' 0 none).map (tok' :: ·)) := by
    intro n
    induction n with
    | zero =>
      intro post hp tok qd
      obtain rfl := List.length_eq_zero_iff.mp hp
      refine ⟨fun h => .inr ⟨tok, qd, .dead, [], rfl, h, .inr ⟨rfl, rfl⟩, Nat.le_refl _, rfl⟩, fun d hd => .inl ⟨rfl, ?_⟩⟩
      obtain ⟨e, rfl⟩ := qt_pos hd
      rfl
    | succ n ih =>
      intro post hp tok qd
      cases post with
      | nil => cases hp
      | cons c r =>
        have hr : r.length = n := by simpa using hp
        refine ⟨fun h => ?_, fun d hd => ?_⟩
        · show (lexRun (c :: r) .wd tok qd = .err ∧ _) ∨ _
          rw [lr_wd, wr_s]
          by_cases h1 : isWs c = true
          · rw [if_pos h1, if_pos h1]
            exact .inr ⟨tok, qd, .sp, r, rfl, h, .inl rfl, by simp, rfl⟩
          · rw [if_neg h1, if_neg h1]
            by_cases h2 : isQt c = true
            · rw [if_pos h2, if_pos h2]
              rcases (ih r hr tok qd).2 c h2 with x | ⟨a, b, e, f, x1, x2, x3, x4, x5⟩
              · exact .inl x
              · exact .inr ⟨a, b, e, f, x1, x2, x3, by simp; omega, x5⟩
            · rw [if_neg h2, if_neg h2]
              rcases (ih r hr (tok ++ [c]) qd).1 (.inl (by simp)) with x | ⟨a, b, e, f, x1, x2, x3, x4, x5⟩
              · exact .inl x
              · exact .inr ⟨a, b, e, f, x1, x2, x3, by simp; omega, x5⟩
        · obtain ⟨e, rfl⟩ := qt_pos hd
          show (lexRun (c :: r) (.q (e + 1)) tok qd = .err ∧ _) ∨ _
          rw [lr_q, wr_q]
          by_cases h1 : (c == e + 1) = true
          · rw [if_pos h1, if_pos h1]
            rcases (ih r hr tok true).1 (.inr rfl) with x | ⟨a, b, e', f, x1, x2, x3, x4, x5⟩
            · exact .inl x
            · exact .inr ⟨a, b, e', f, x1, x2, x3, by simp; omega, x5⟩
          · rw [if_neg h1, if_neg h1]
            rcases (ih r hr (tok ++ [c]) true).2 (e + 1) hd with x | ⟨a, b, e', f, x1, x2, x3, x4, x5⟩
            · exact .inl x
            · exact .inr ⟨a, b, e', f, x1, x2, x3, by simp; omega, x5⟩
  intro post tok qd h
  exact ⟨(this _ post rfl tok qd).1 h, (this _ post rfl tok qd).2⟩
theorem run_q (post : List Nat) (tok : List Nat) (qd : Bool) (d : Nat) (hd : isQt d = true) : (lexRun post (.q d) tok qd = .err ∧ Wr post d (some tok) = none) ∨ ∃ tok' qd' st' post', lexRun post (.q d) tok qd = .fin tok' qd' st' post' ∧ (tok' ≠ [] ∨ qd' = true) ∧ (st' = .sp ∨ st' = .dead ∧ post' = []) ∧ post'.length ≤ post.length ∧ Wr post d (some tok) = (Wr post' 0 none).map (tok' :: ·) := by
  obtain ⟨e, rfl⟩ := qt_pos hd
  cases post with
  | nil => exact .inl ⟨rfl, rfl⟩
  | cons c r =>
    show (lexRun (c :: r) (.q (e + 1)) tok qd = .err ∧ _) ∨ _
    rw [lr_q, wr_q]
    by_cases h1 : (c == e + 1) = true
    · rw [if_pos h1, if_pos h1]
      rcases (run_wd r tok true (.inr rfl)).1 with x | ⟨a, b, e', f, x1, x2, x3, x4, x5⟩
      · exact .inl x
      · exact .inr ⟨a, b, e', f, x1, x2, x3, by simp; omega, x5⟩
    · rw [if_neg h1, if_neg h1]
      rcases (run_wd r (tok ++ [c]) true (.inr rfl)).2 (e + 1) hd with x | ⟨a, b, e', f, x1, x2, x3, x4, x5⟩
      · exact .inl x
      · exact .inr ⟨a, b, e', f, x1, x2, x3, by simp; omega, x5⟩
theorem run_sp : ∀ (post : List Nat), (lexRun post .sp [] false = .err ∧ Wr post 0 none = none) ∨ (lexRun post .sp [] false = .fin [] false .dead [] ∧ Wr post 0 none = some []) ∨
    ∃ tok' qd' st' post', lexRun post .sp [] false = .fin tok' qd' st' post' ∧ (tok' ≠ [] ∨ qd' = true) ∧ (st' = .sp ∨ st' = .dead ∧ post' = []) ∧ post'.length < post.length ∧ Wr post 0 none = (Wr post' 0 none).map (tok' :: ·) := by
  intro post
  induction post with
  | nil => exact .inr (.inl ⟨rfl, rfl⟩)
  | cons c r ih =>
    show (lexRun (c :: r) .sp [] false = .err ∧ _) ∨ _
    rw [lr_sp, wr_n]
    by_cases h1 : isWs c = true
    · rw [if_pos h1, if_pos h1]
      rcases ih with x | x | ⟨a, b, e', f, x1, x2, x3, x4, x5⟩
      · exact .inl x
      · exact .inr (.inl x)
      · exact .inr (.inr ⟨a, b, e', f, x1, x2, x3, by simp; omega, x5⟩)
    · rw [if_neg h1, if_neg h1]
      by_cases h2 : isQt c = true
      · rw [if_pos h2, if_pos h2]
        rcases run_q r [] false c h2 with x | ⟨a, b, e', f, x1, x2, x3, x4, x5⟩
        · exact .inl x
        · exact .inr (.inr ⟨a, b, e', f, x1, x2, x3, by simp; omega, x5⟩)
      · rw [if_neg h2, if_neg h2]
        rcases (run_wd r [c] false (.inl (by simp))).1 with x | ⟨a, b, e', f, x1, x2, x3, x4, x5⟩
        · exact .inl x
        · exact .inr (.inr ⟨a, b, e', f, x1, x2, x3, by simp; omega, x5⟩)
theorem lexes_wr : ∀ (n : Nat) (post : List Nat), post.length ≤ n → ∀ st, (st = .sp ∨ st = .dead ∧ post = []) → Lexes post st (Wr post 0 none) := by
  intro n
  induction n with
  | zero =>
    intro post hp st hst
    obtain rfl := List.length_eq_zero_iff.mp (Nat.le_zero.mp hp)
    rcases hst with rfl | ⟨rfl, _⟩
    · exact .stop (st' := .dead) (post' := []) rfl
    · exact .stop (st' := .dead) (post' := []) rfl
  | succ n ih =>
    intro post hp st hst
    rcases hst with rfl | ⟨rfl, rfl⟩
    · rcases run_sp post with ⟨x, y⟩ | ⟨x, y⟩ | ⟨a, b, e, f, x1, x2, x3, x4, x5⟩
      · rw [y]; exact .err x
      · rw [y]; exact .stop x
      · rw [x5]; exact .word x1 x2 (ih f (by omega) e x3)
    · exact .stop (st' := .dead) (post' := []) rfl
/-- the place behind a sign, as the law tells it: 0 nothing open, 1 an apostrophe, 2 a double mark -/
def opn (p c : Nat) : Nat := if c = 39 ∧ p < 2 then 1 - p else if c = 34 ∧ p ≠ 1 then 2 - p else p
def opens (t : List Nat) (p : Nat) : Nat := t.foldl opn p
inductive Cl where
  | sep | keep (c : Nat) | drop
def cls (p c : Nat) : Cl := if p = 0 ∧ isWs c = true then .sep else if opn p c = p then .keep c else .drop
def ann : List Nat → Nat → List Cl
  | [], _ => []
  | c :: r, p => cls p c :: ann r (opn p c)
/-- words from the right: the word begun at the left end, the others -/
def addL (x : Cl) (s : Option (List Nat) × List (List Nat)) : Option (List Nat) × List (List Nat) := match x with
  | .sep => (none, s.1.toList ++ s.2)
  | .keep c => (some (c :: s.1.getD []), s.2)
  | .drop => (some (s.1.getD []), s.2)
def gR (l : List Cl) : Option (List Nat) × List (List Nat) := l.foldr addL (none, [])
/-- words from the left -/
def addR (s : List (List Nat) × Option (List Nat)) (x : Cl) : List (List Nat) × Option (List Nat) := match x with
  | .sep => (s.1 ++ s.2.toList, none)
  | .keep c => (s.1, some (s.2.getD [] ++ [c]))
  | .drop => (s.1, some (s.2.getD []))
def gL (s : List (List Nat) × Option (List Nat)) (l : List Cl) : List (List Nat) × Option (List Nat) := l.foldl addR s
def wdsL (s : List (List Nat) × Option (List Nat)) : List (List Nat) := s.1 ++ s.2.toList
def jn (cur : Option (List Nat)) (s : Option (List Nat) × List (List Nat)) : List (List Nat) := match cur, s.1 with
  | none, x => x.toList ++ s.2
  | some w, none => w :: s.2
  | some w, some v => (w ++ v) :: s.2
theorem gL_gR : ∀ (l : List Cl) (ws : List (List Nat)) (cur : Option (List Nat)), wdsL (gL (ws, cur) l) = ws ++ jn cur (gR l) := by
  intro l
  induction l with
  | nil => intro ws cur; cases cur <;> rfl
  | cons x r ih =>
    intro ws cur
    show wdsL (gL (addR (ws, cur) x) r) = ws ++ jn cur (addL x (gR r))
    generalize gR r = s at ih ⊢
    obtain ⟨o, v⟩ := s
    cases x with
    | sep => rw [show addR (ws, cur) .sep = (ws ++ cur.toList, none) from rfl, ih]; cases cur <;> cases o <;> simp [jn, addL]
    | keep c => rw [show addR (ws, cur) (.keep c) = (ws, some (cur.getD [] ++ [c])) from rfl, ih]; cases cur <;> cases o <;> simp [jn, addL]
    | drop => rw [show addR (ws, cur) .drop = (ws, some (cur.getD [])) from rfl, ih]; cases cur <;> cases o <;> simp [jn, addL]
def mir (ws : List (List Nat)) : List (List Nat) := (ws.map List.reverse).reverse
theorem gL_mir : ∀ (l : List Cl), gL ([], none) l.reverse = (mir (gR l).2, (gR l).1.map List.reverse) := by
  intro l
  induction l with
  | nil => rfl
  | cons x r ih =>
    have ih : List.foldl addR ([], none) r.reverse = _ := ih
    show List.foldl addR ([], none) (x :: r).reverse = (mir (addL x (gR r)).2, (addL x (gR r)).1.map List.reverse)
    rw [List.reverse_cons, List.foldl_append, ih]
    generalize gR r = s
    obtain ⟨o, v⟩ := s
    cases x <;> cases o <;> simp [mir, addL, addR]
theorem words_mir (l : List Cl) : wdsL (gL ([], none) l.reverse) = mir (wdsL (gL ([], none) l)) := by
  rw [gL_mir, gL_gR]
  generalize gR l = s
  obtain ⟨o, v⟩ := s
  cases o <;> simp [wdsL, jn, mir]
theorem opn_inv {p : Nat} (h : p ≤ 2) (c : Nat) : opn (opn p c) c = p ∧ opn p c ≤ 2 := by
  unfold opn
  have : p = 0 ∨ p = 1 ∨ p = 2 := by omega
  rcases this with rfl | rfl | rfl <;> by_cases h1 : c = 39 <;> by_cases h2 : c = 34 <;> simp_all
theorem opens_le : ∀ (t : List Nat) {p : Nat}, p ≤ 2 → opens t p ≤ 2
  | [], _, h => h
  | c :: r, _, h => opens_le r (opn_inv h c).2
theorem ws39 : isWs 39 = false := by decide +kernel
theorem ws34 : isWs 34 = false := by decide +kernel
theorem cls_inv {p : Nat} (h : p ≤ 2) (c : Nat) : cls (opn p c) c = cls p c := by
  unfold cls
  rw [(opn_inv h c).1]
  by_cases hc : isWs c = true
  · have h1 : c ≠ 39 := by rintro rfl; rw [ws39] at hc; cases hc
    have h2 : c ≠ 34 := by rintro rfl; rw [ws34] at hc; cases hc
    have e : opn p c = p := by unfold opn; simp [h1, h2]
    simp [e]
  · simp only [hc, and_false, Bool.false_eq_true, if_false]
    by_cases e : opn p c = p
    · simp [e]
    · simp [e, Ne.symm e]
theorem ann_app : ∀ (t u : List Nat) (p : Nat), ann (t ++ u) p = ann t p ++ ann u (opens t p)
  | [], _, _ => rfl
  | c :: r, u, p => by
    show cls p c :: ann (r ++ u) (opn p c) = _
    rw [ann_app r u]
    rfl
theorem opens_app (t u : List Nat) (p : Nat) : opens (t ++ u) p = opens u (opens t p) := List.foldl_append ..
theorem rev_inv : ∀ (t : List Nat) {p : Nat}, p ≤ 2 → opens t.reverse (opens t p) = p ∧ ann t.reverse (opens t p) = (ann t p).reverse
  | [], _, _ => ⟨rfl, rfl⟩
  | c :: r, p, h => by
    obtain ⟨h1, h2⟩ := rev_inv r (opn_inv h c).2
    have e : opens (c :: r) p = opens r (opn p c) := rfl
    rw [List.reverse_cons, opens_app, ann_app, e, h1, h2]
    refine ⟨(opn_inv h c).1, ?_⟩
    show _ ++ [cls (opn p c) c] = (cls p c :: ann r (opn p c)).reverse
    rw [cls_inv h, List.reverse_cons]
def pl : Nat → Nat
  | 0 => 0
  | 1 => 39
  | _ => 34
theorem qt39 : isQt 39 = true := by decide +kernel
theorem qt34 : isQt 34 = true := by decide +kernel
theorem wr_gR : ∀ (t : List Nat) (p : Nat) (cur : Option (List Nat)), p ≤ 2 → (p ≠ 0 → cur.isSome = true) → Wr t (pl p) cur = if opens t p = 0 then some (jn cur (gR (ann t p))) else none := by
  intro t
  induction t with
  | nil =>
    intro p cur h hc
    have : p = 0 ∨ p = 1 ∨ p = 2 := by omega
    rcases this with rfl | rfl | rfl
    · cases cur <;> rfl
    · rfl
    · rfl
  | cons c r ih =>
    intro p cur h hc
    have eo : opens (c :: r) p = opens r (opn p c) := rfl
    have ea : gR (ann (c :: r) p) = addL (cls p c) (gR (ann r (opn p c))) := rfl
    rw [eo, ea]
    have hp : p = 0 ∨ p = 1 ∨ p = 2 := by omega
    by_cases hw : isWs c = true
    · have h1 : c ≠ 39 := by rintro rfl; rw [ws39] at hw; cases hw
      have h2 : c ≠ 34 := by rintro rfl; rw [ws34] at hw; cases hw
      have e : opn p c = p := by unfold opn; simp [h1, h2]
      rw [e]
      rcases hp with rfl | rfl | rfl
      · have ec : cls 0 c = .sep := by unfold cls; simp [hw]
        rw [ec]
        have := ih 0 none (by omega) (by simp)
        cases cur with
        | none =>
          rw [show pl 0 = 0 from rfl, wr_n, if_pos hw]
          rw [show pl 0 = 0 from rfl] at this
          rw [this]
          generalize gR (ann r 0) = s
          obtain ⟨o, v⟩ := s
          cases o <;> simp [jn, addL]
        | some w =>
          rw [show pl 0 = 0 from rfl, wr_s, if_pos hw]
          rw [show pl 0 = 0 from rfl] at this
          rw [this]
          generalize gR (ann r 0) = s
          obtain ⟨o, v⟩ := s
          split <;> cases o <;> simp [jn, addL]
      · have ec : cls 1 c = .keep c := by unfold cls; simp [e]
        rw [ec]
        cases cur with
        | none => exact absurd (hc (by decide)) (by simp)
        | some w =>
          have := ih 1 (some (w ++ [c])) (by omega) (by simp)
          rw [show pl 1 = 38 + 1 from rfl, wr_q, if_neg (by simpa using h1)]
          rw [show pl 1 = 38 + 1 from rfl] at this
          rw [this]
          generalize gR (ann r 1) = s
          obtain ⟨o, v⟩ := s
          cases o <;> simp [jn, addL]
      · have ec : cls 2 c = .keep c := by unfold cls; simp [e]
        rw [ec]
        cases cur with
        | none => exact absurd (hc (by decide)) (by simp)
        | some w =>
          have := ih 2 (some (w ++ [c])) (by omega) (by simp)
          rw [show pl 2 = 33 + 1 from rfl, wr_q, if_neg (by simpa using h2)]
          rw [show pl 2 = 33 + 1 from rfl] at this
          rw [this]
          generalize gR (ann r 2) = s
          obtain ⟨o, v⟩ := s
          cases o <;> simp [jn, addL]
    · have key : ∀ (p' : Nat) (x : Cl) (cur' : Option (List Nat)), opn p c = p' → cls p c = x → p' ≤ 2 → cur'.isSome = true → Wr (c :: r) (pl p) cur = Wr r (pl p') cur' → (∀ s, jn cur' s = jn cur (addL x s)) →
          Wr (c :: r) (pl p) cur = if opens r (opn p c) = 0 then some (jn cur (addL (cls p c) (gR (ann r (opn p c))))) else none := by
        intro p' x cur' e1 e2 e3 e4 e5 e6
        rw [e5, ih p' cur' e3 (fun _ => e4), e1, e2, e6]
      have fin : ∀ (x : Cl) (w : List Nat), x ≠ .sep → (cur = none ∧ w = (match x with | .keep c => [c] | _ => []) ∨ ∃ v, cur = some v ∧ w = v ++ (match x with | .keep c => [c] | _ => [])) → ∀ s, jn (some w) s = jn cur (addL x s) := by
        intro x w hx hw s
        obtain ⟨o, v⟩ := s
        rcases hw with ⟨rfl, rfl⟩ | ⟨v', rfl, rfl⟩ <;> cases x <;> cases o <;> simp_all [jn, addL]
      have hcls : cls p c = if opn p c = p then .keep c else .drop := by unfold cls; simp [hw]
      by_cases h1 : c = 39
      · subst h1
        rcases hp with rfl | rfl | rfl
        · refine key 1 .drop (some (cur.getD [])) rfl rfl (by omega) rfl ?_ (fin _ _ (by simp) (by cases cur <;> simp))
          cases cur
          · show Wr _ 0 none = _; rw [wr_n, if_neg hw, if_pos qt39]; rfl
          · show Wr _ 0 (some _) = _; rw [wr_s, if_neg hw, if_pos qt39]; rfl
        · cases cur with
          | none => exact absurd (hc (by decide)) (by simp)
          | some w =>
            refine key 0 .drop (some w) rfl rfl (by omega) rfl ?_ (fin _ _ (by simp) (by simp))
            show Wr _ (38 + 1) (some _) = _; rw [wr_q, if_pos (by decide)]; rfl
        · cases cur with
          | none => exact absurd (hc (by decide)) (by simp)
          | some w =>
            refine key 2 (.keep 39) (some (w ++ [39])) rfl rfl (by omega) rfl ?_ (fin _ _ (by simp) (by simp))
            show Wr _ (33 + 1) (some _) = _; rw [wr_q, if_neg (by decide)]; rfl
      · by_cases h2 : c = 34
        · subst h2
          rcases hp with rfl | rfl | rfl
          · refine key 2 .drop (some (cur.getD [])) rfl rfl (by omega) rfl ?_ (fin _ _ (by simp) (by cases cur <;> simp))
            cases cur
            · show Wr _ 0 none = _; rw [wr_n, if_neg hw, if_pos qt34]; rfl
            · show Wr _ 0 (some _) = _; rw [wr_s, if_neg hw, if_pos qt34]; rfl
          · cases cur with
            | none => exact absurd (hc (by decide)) (by simp)
            | some w =>
              refine key 1 (.keep 34) (some (w ++ [34])) rfl rfl (by omega) rfl ?_ (fin _ _ (by simp) (by simp))
              show Wr _ (38 + 1) (some _) = _; rw [wr_q, if_neg (by decide)]; rfl
          · cases cur with
            | none => exact absurd (hc (by decide)) (by simp)
            | some w =>
              refine key 0 .drop (some w) rfl rfl (by omega) rfl ?_ (fin _ _ (by simp) (by simp))
              show Wr _ (33 + 1) (some _) = _; rw [wr_q, if_pos (by decide)]; rfl
        · have e : opn p c = p := by unfold opn; simp [h1, h2]
          have hq : ¬ isQt c = true := fun q => by rcases qt_cases q with q | q <;> contradiction
          rcases hp with rfl | rfl | rfl
          · refine key 0 (.keep c) (some (cur.getD [] ++ [c])) e (by rw [hcls, if_pos e]) (by omega) rfl ?_ (fin _ _ (by simp) (by cases cur <;> simp))
            cases cur
            · show Wr _ 0 none = _; rw [wr_n, if_neg hw, if_neg hq]; rfl
            · show Wr _ 0 (some _) = _; rw [wr_s, if_neg hw, if_neg hq]; rfl
          · cases cur with
            | none => exact absurd (hc (by decide)) (by simp)
            | some w =>
              refine key 1 (.keep c) (some (w ++ [c])) e (by rw [hcls, if_pos e]) (by omega) rfl ?_ (fin _ _ (by simp) (by simp))
              show Wr _ (38 + 1) (some _) = _; rw [wr_q, if_neg (by simpa using h1)]; rfl
          · cases cur with
            | none => exact absurd (hc (by decide)) (by simp)
            | some w =>
              refine key 2 (.keep c) (some (w ++ [c])) e (by rw [hcls, if_pos e]) (by omega) rfl ?_ (fin _ _ (by simp) (by simp))
              show Wr _ (33 + 1) (some _) = _; rw [wr_q, if_neg (by simpa using h2)]; rfl
/-- the words of a text as the law tells them -/
def wds (t : List Nat) : List (List Nat) := wdsL (gL ([], none) (ann t 0))
def reads (t : List Nat) : Option (List (List Nat)) := if opens t 0 = 0 then some (wds t) else none
theorem lexes_reads (t : List Nat) : Lexes t .sp (reads t) := by
  have := lexes_wr _ t (Nat.le_refl _) .sp (.inl rfl)
  rw [show (0 : Nat) = pl 0 from rfl, wr_gR t 0 none (by omega) (by simp)] at this
  unfold reads wds
  rw [gL_gR, List.nil_append]
  exact this
theorem reads_mir {t : List Nat} : reads t.reverse = (reads t).map mir := by
  unfold reads wds
  by_cases h : opens t 0 = 0
  · have := rev_inv t (p := 0) (by omega)
    rw [h] at this
    rw [if_pos h, if_pos this.1, this.2, words_mir]
    rfl
  · have hn : ¬ opens t.reverse 0 = 0 := by
      intro q
      have := rev_inv t.reverse (p := 0) (by omega)
      rw [q, List.reverse_reverse] at this
      exact h this.1
    rw [if_neg h, if_neg hn]
    rfl
def mk : Nat → List Nat
  | 0 => []
  | 1 => [39]
  | _ => [34]
theorem opens_marked {a b : Nat} (ha : a ≤ 2) (hb : b ≤ 2) (t : List Nat) : opens (mk a ++ t ++ mk b) 0 = 0 ↔ opens t a = b := by
  have e : opens (mk a) 0 = a := by
    have : a = 0 ∨ a = 1 ∨ a = 2 := by omega
    rcases this with rfl | rfl | rfl <;> rfl
  rw [opens_app, opens_app, e]
  have := opens_le t ha
  generalize opens t a = p at *
  have h1 : p = 0 ∨ p = 1 ∨ p = 2 := by omega
  have h2 : b = 0 ∨ b = 1 ∨ b = 2 := by omega
  rcases h1 with rfl | rfl | rfl <;> rcases h2 with rfl | rfl | rfl <;> decide
theorem marked_rev (a b : Nat) (t : List Nat) : mk b ++ t.reverse ++ mk a = (mk a ++ t ++ mk b).reverse := by
  have e : ∀ x, (mk x).reverse = mk x := by
    intro x
    unfold mk
    split <;> rfl
  rw [List.reverse_append, List.reverse_append, e, e, List.append_assoc]
theorem told_law {a b : Nat} (ha : a ≤ 2) (hb : b ≤ 2) (t : List Nat) : reads (mk a ++ t ++ mk b) = (if opens t a = b then some (wds (mk a ++ t ++ mk b)) else none) ∧
    reads (mk b ++ t.reverse ++ mk a) = (if opens t a = b then some (mir (wds (mk a ++ t ++ mk b))) else none) := by
  rw [marked_rev, reads_mir]
  unfold reads
  by_cases h : opens t a = b
  · rw [if_pos ((opens_marked ha hb t).mpr h), if_pos h, if_pos h]
    exact ⟨rfl, rfl⟩
  · rw [if_neg (fun q => h ((opens_marked ha hb t).mp q)), if_neg h, if_neg h]
    exact ⟨rfl, rfl⟩
end Mine
end
section
open Lean Meta Elab PySem PySem.W PyProof.Rows
namespace Mine
structure Gd (P : Params) (mean : ExcName → Option Value) (mg mb : Str → Option Value) (h : Heap) : Prop where
  x : (K P).In h
  t : Top q loose mean mg mb h
end Mine
end
section
open Lean Meta Elab PySem PySem.W PyProof.Rows Mine
local macro_rules | `(tactic| walk_at "s_enter") => `(tactic| (refine' code_defS ?k1 ?k2 ?k3 ?k4 ?k5 ?XB ?TB ?D ?T0 ?kA ?k6 ?k7 ?k8 ?k9 ?kB ?_ ?cK ?c2 ?c3 ?c4 ?c5; (case kA => exact rfl); (case k2 => k_asm); (case k1 => k_asm); (case XB => exact Gd.x (by assumption)); (case TB => exact Gd.t (by assumption)); (case D => assumption); (case T0 => exact KtsTurn.refl); (case k3 => k_asm); (case k4 => k_asm); (case k5 => k_asm); (case k6 => k_is); (case k7 => k_is); (case k8 => ktr_room); (case k9 => first | exact BindsTo.of_eq rfl | exact binds_K (by k_in) rfl (by k_is) rfl rfl rfl | fail "s_enter: the arguments"); (case kB => exact locs rfl); (case cK => first | exact rfl | assumption); (case c2 => exact rfl); (case c3 => exact rfl); (case c4 => exact rfl); (case c5 => decide); k_whole; intro g' L' h' FG' F' N' B' X' T' D'; (try dsimp only); (try k_fold)))
section
open Lean Meta Elab PySem PySem.W PyProof.Rows
set_option maxRecDepth 100000
set_option maxHeartbeats 0
set_option Elab.async false
set_option linter.unusedVariables false
namespace Mine
theorem fillQ : (fun (_ : Params → Frag) (_ : OpenLaw) => True) K rw1 := by k_fill; trivial
section
variable {w : World} {mean : ExcName → Option Value} {mg mb : Str → Option Value} {dp un : Nat} {gd : Option (List Code)} {cn : Str} {cs : Scope} {a : Addr} {ccd : Value} {cl : List (Str × Addr)} {outer : List Env} {A₀ : Around} {base h₀ : Heap} {L : Addr} {m : Str → Option Value} {news : List (Addr × Obj)} {s : Shared} {Q E : Value → Shared → Prop} {x : Str} {t : Tok}
theorem under722 : (ktrTop dp un gd cn cs L a ccd cl outer).under (.builtin "type.__call__" ⟨[.ref 722, .str x t], [("posix", .bool true)]⟩) = ktrTop (dp + 1) (un + 1) gd cn cs L a ccd cl outer := rfl
theorem mklex_c
    (B : Below A₀ base outer h₀) (F : Fr h₀ L s.heap m) (X : (K w.params).In h₀) (N : News h₀ L s.heap news) (T : Top q loose mean mg mb h₀) (hk : cs.kind = .function)
    (hd : dp + 7 < recursionLimit) (hu : un + 50 < cLine)
    (hret : ∀ (io dio pb fs lex dlex : Nat) (σ τ : Nat → Tok) u ts tl tt h' tk', dlex < lex → lex < dio → dio < io → io < pb → pb < fs → (∀ p ∈ news, p.1 < dlex) → Fr h₀ L h' m →
      News h₀ L h' ((fs, dqE) :: (pb, dqE) :: (io, instObj 587 dio) :: (dio, dictOf (ioE w.params x σ 0 u) 3) :: (lex, instObj 722 dlex) :: (dlex, dictOf (lexG w.params (wd1 ++ wd2) "#" false τ io pb fs (.str " " ts) 1 tl "" tt) 19) :: news) → Q (.ref lex) { s with heap := h', toks := tk' }) :
    wpAny (model pw w) (ktrTop dp un gd cn cs L a ccd cl outer) (call (.ref 722) [.str x t] [("posix", .bool true)]) Q E s := by
  refine call_cls (C := 722) (fI := 646) F X N (by k_is) (by k_is) (by k_is) ?_
  intro lex dlex h1 F1 N1 l1 l2
  rw [under722]
  refine linit_c (dp := dp + 1) (un := un + 1) (s := { s with heap := h1 }) B F1 X N1 T hk (fun p hp => Nat.ne_of_lt (l1 p hp)) l2 (by omega) (by omega) ?_
  intro io dio pb fs σ τ u ts tl tt h' tk' a1 a2 a3 a4 a5 F2 N2
  exact ⟨rfl, hret io dio pb fs lex dlex σ τ u ts tl tt h' tk' l2 a1 a2 a3 a4 l1 F2 N2⟩
end
abbrev updT (τ : Nat → Tok) (t : Tok) : Nat → Tok := fun k => match k with | 24 => t | k => τ k
theorem wd_qt : ∀ c, isQt c = true → (wd1 ++ wd2).cps.toList.contains c = false := by
  intro c h
  rcases qt_cases h with rfl | rfl <;> decide +kernel
section
variable {w : World} {mean : ExcName → Option Value} {mg mb : Str → Option Value} {dp un : Nat} {gd : Option (List Code)} {cn : Str} {cs : Scope} {a : Addr} {ccd : Value} {outer : List Env} {A₀ : Around} {base h₀ : Heap} {L : Addr} {m : Str → Option Value} {news : List (Addr × Obj)} {s : Shared} {Q E : Value → Shared → Prop} {x : Str} {t t' : Tok} {es : List DictEntry}
theorem list0_c {io dio pb fs lex dlex : Nat} {σ τ : Nat → Tok} {u ts tl tt : Tok}
    (B : Below A₀ base outer h₀) (F : Fr h₀ L s.heap m) (X : (K w.params).In h₀)
    (N : News h₀ L s.heap ((fs, dqE) :: (pb, dqE) :: (io, instObj 587 dio) :: (dio, dictOf (ioE w.params x σ 0 u) 3) :: (lex, instObj 722 dlex) :: (dlex, dictOf es 19) :: news)) (he : es = lexE w.params (wd1 ++ wd2) (updT τ t') io pb fs (.str " " ts) 1 tl "" tt) (T : Top q loose mean mg mb h₀) (hk : cs.kind = .function)
    (l1 : dlex < lex) (l2 : lex < dio) (l3 : dio < io) (l4 : io < pb) (l5 : pb < fs) (l6 : ∀ p ∈ news, p.1 < dlex)
    (hbs : ∀ c ∈ x.cps.toList, (Str.ofString "\\").cps.toList.contains c = false) (hsz : x.length ≤ 1000)
    (hd : dp + 7 < recursionLimit) (hu : un + 80 < cLine)
    (hret : ∀ ws, reads x.cps.toList = some ws → ∀ S vs c' h₀' h' tk', StrsAre vs (txts ws) → KtsTurn (outer.filterMap (·.frame)) h₀ h₀' → Below A₀ base outer h₀' → Fr h₀' L h' m → News h₀' L h' ((S, lst vs c') :: news) → Q (.ref S) { s with heap := h', toks := tk' })
    (hX : reads x.cps.toList = none → ∀ gg h' e tk', Fr h₀ L gg m → gg.UpToSlots h' → RaisedSN base gg (envOf cn cs L a ccd :: outer) e (.type "ValueError") news h' → E (.ref e) { s with heap := h', toks := tk' }) :
    wpAny (model pw w) (ktrTop dp un gd cn cs L a ccd [] outer) (call (.type "list") [.ref lex]) Q E s := by
  subst he
  have N2 : News h₀ L s.heap (Mine.led w.params (wd1 ++ wd2) x (updT τ t') σ lex dlex io dio pb fs (([] : List Nat).length : Nat) u (stV .sp ts) 1 tl "" tt ((pb, dqE) :: (fs, dqE) :: news)) := by
    intro p hp
    apply N
    simp only [led, List.mem_cons] at hp ⊢
    rcases hp with h | h | h | h | h | h | h
    · exact .inr (.inr (.inl h))
    · exact .inr (.inr (.inr (.inl h)))
    · exact .inr (.inr (.inr (.inr (.inl h))))
    · exact .inr (.inr (.inr (.inr (.inr (.inl h)))))
    · exact .inr (.inl h)
    · exact .inl h
    · exact .inr (.inr (.inr (.inr (.inr (.inr h)))))
  refine list_c (pre := []) (lexes_reads x.cps.toList) B F X N2 T hk hbs wd_qt hsz ?_ ?_ l1 l2 l3 hd hu rfl (.inl rfl) ?_ ?_
  · intro p hp
    simp only [List.mem_cons] at hp
    rcases hp with rfl | rfl | hp
    · show @Ne Nat pb dio; omega
    · show @Ne Nat fs dio; omega
    · have := l6 p hp
      show @Ne Nat p.1 dio
      have : @LT.lt Nat _ p.1 dlex := this
      omega
  · intro p hp
    simp only [List.mem_cons] at hp
    rcases hp with rfl | rfl | hp
    · show @Ne Nat pb dlex; omega
    · show @Ne Nat fs dlex; omega
    · have : @LT.lt Nat _ p.1 dlex := l6 p hp
      show @Ne Nat p.1 dlex
      omega
  · exact hret
  · exact hX
end
local macro_rules | `(tactic| walk_at "leaving ref") => `(tactic| (k_here; first
  | (refine' leave_newS ?k1 ?k0 ?k2 ?k3 ?_; (case k0 => assumption); (case k1 => assumption); (case k2 => assumption); (case k3 => k_asm); k_whole; intro h' R' R2' U'; (try dsimp only at R' R2' U' ⊢))
  | (refine' leave_onSN ?k1 ?k2 ?k3 ?k4 ?_; (case k3 => assumption); (case k1 => assumption); (case k4 => assumption); (case k2 => assumption); k_whole; intro h' R' R2' U'; (try dsimp only at R' R2' U' ⊢))
  | (refine' leave_raiseS ?k1 ?k0 ?k2 ?k3 ?_; (case k0 => assumption); (case k1 => assumption); (case k2 => assumption); (case k3 => k_asm); k_whole; intro h' t' R' R2' U'; (try dsimp only at R' R2' U' ⊢))))
local macro_rules | `(tactic| walk_at "call type:list") => `(tactic| (k_here; k_dflt (refine' list0_c ?rB ?rF ?rX ?rN ?re ?rT ?rK ?l1 ?l2 ?l3 ?l4 ?l5 ?l6 ?rb ?rz ?rd ?ru ?_ ?_; (case rB => k_asm); (case rF => k_asm); (case rX => k_asm);  (case rN => k_asm); (case re => exact rfl); (case rT => k_asm); (case rK => first | exact rfl | assumption); (case l1 => assumption); (case l2 => assumption); (case l3 => assumption); (case l4 => assumption); (case l5 => assumption); (case l6 => assumption); (case rb => assumption); (case rz => assumption); (case rd => ktr_room); (case ru => ktr_units); k_whole); (all_goals first | refine fun (ws9 : List (List Nat)) e9 S9 vs9 c9 g9 h9 tk9 hv9 T9 B9 F9 N9 => ?_ | refine fun e9 g9 h9 x9 tk9 F9 U9 R9 => ?_)))
local macro_rules | `(tactic| walk_at "call ref") => `(tactic| (k_here; k_dflt (refine' mklex_c ?rB ?rF ?rX ?rN ?rT ?rK ?rd ?ru ?_; (case rB => k_asm); (case rF => k_asm); (case rX => k_asm);  (case rN => k_asm); (case rT => k_asm); (case rK => first | exact rfl | assumption); (case rd => ktr_room); (case ru => ktr_units); k_whole); intro io9 dio9 pb9 fs9 lex9 dlex9 σ9 τ9 u9 ts9 tl9 tt9 h9 tk9 l10 l11 l12 l13 l14 l15 F9 N9; (try k_lt l15); (try dsimp only)))
section
variable {w : World} {mean : ExcName → Option Value} {mg mb : Str → Option Value} {dp un : Nat} {gd : Option (List Code)} {cn : Str} {cs : Scope} {a : Addr} {ccd : Value} {outer : List Env} {A₀ : Around} {base h₀ : Heap} {L : Addr} {m : Str → Option Value} {news : List (Addr × Obj)} {s : Shared} {Q E : Value → Shared → Prop} {x : Str} {t : Tok}
theorem split_c
    (B : Below A₀ base outer h₀) (F : Fr h₀ L s.heap m) (X : (K w.params).In h₀) (N : News h₀ L s.heap news) (T : Top q loose mean mg mb h₀) (hk : cs.kind = .function)
    (G : Gd w.params mean mg mb base) (D : KtsDicts (outer.filterMap (·.frame)) h₀)
    (hbs : ∀ c ∈ x.cps.toList, (Str.ofString "\\").cps.toList.contains c = false) (hsz : x.length ≤ 1000)
    (hd : dp + 10 < recursionLimit) (hu : un + 120 < cLine)
    (hret : ∀ ws, reads x.cps.toList = some ws → ∀ S vs c' h₀' h' tk', StrsAre vs (txts ws) → KtsTurn (outer.filterMap (·.frame)) h₀ h₀' → Below A₀ base outer h₀' → (K w.params).In h₀' → Top q loose mean mg mb h₀' → KtsDicts (outer.filterMap (·.frame)) h₀' → Fr h₀' L h' m → News h₀' L h' ((S, lst vs c') :: news) → Q (.ref S) { s with heap := h', toks := tk' })
    (hX : reads x.cps.toList = none → ∀ gg h' e tk', Fr h₀ L gg m → gg.UpToSlots h' → RaisedSN base gg (envOf cn cs L a ccd :: outer) e (.type "ValueError") news h' → E (.ref e) { s with heap := h', toks := tk' }) :
    wpAny (model pw w) (ktrTop dp un gd cn cs L a ccd [] outer) (call (.ref 734) [.str x t]) Q E s := by
  refine wpAny_call ?_
  k_dflt (walk_at "s_enter")
  k_steps
  all_goals first
    | exact hret _ (by assumption) _ _ _ _ _ _ (by assumption) (by assumption) (by assumption) (by assumption) (by assumption) (by assumption) (by k_asm) (by k_asm)
    | exact hX (by assumption) _ _ _ _ (by k_asm) (by assumption) (by assumption)
    | (fail "END")
end
end Mine
end
section
open PySem PySem.W PyProof.Rows
local macro_rules | `(tactic| walk_at "no such key") => `(tactic| fail)
open Lean Meta Elab PySem PySem.W PyProof.Rows
set_option maxRecDepth 100000
set_option maxHeartbeats 0
set_option Elab.async false
set_option linter.unusedVariables false
namespace Mine
theorem fillS : (fun (_ : Params → Frag) (_ : OpenLaw) => True) K rw1 := by k_fill; trivial
local macro_rules | `(tactic| walk_at "leaving ref") => `(tactic| (k_here; first
  | (refine' leave_newS ?k1 ?k0 ?k2 ?k3 ?_; (case k0 => assumption); (case k1 => assumption); (case k2 => assumption); (case k3 => k_asm); k_whole; intro h' R' R2' U'; (try dsimp only at R' R2' U' ⊢))
  | (refine' leave_onSN ?k1 ?k2 ?k3 ?k4 ?_; (case k3 => assumption); (case k1 => assumption); (case k4 => assumption); (case k2 => assumption); k_whole; intro h' R' R2' U'; (try dsimp only at R' R2' U' ⊢))
  | (refine' leave_raiseS ?k1 ?k0 ?k2 ?k3 ?_; (case k0 => assumption); (case k1 => assumption); (case k2 => assumption); (case k3 => k_asm); k_whole; intro h' t' R' R2' U'; (try dsimp only at R' R2' U' ⊢))))
local macro_rules | `(tactic| walk_at "call ref") => `(tactic| (k_here; k_dflt (refine' split_c ?rB ?rF ?rX ?rN ?rT ?rK ?rG ?rD ?rb ?rz ?rd ?ru ?_ ?_; (case rB => k_asm); (case rF => k_asm); (case rX => k_asm);  (case rN => k_asm); (case rT => k_asm); (case rK => first | exact rfl | assumption); (case rG => assumption); (case rD => k_asm); (case rb => assumption); (case rz => assumption); (case rd => ktr_room); (case ru => ktr_units); k_whole); (all_goals first | refine fun (ws9 : List (List Nat)) e9 S9 vs9 c9 g9 h9 tk9 hv9 T9 B9 X9 P9 D9 F9 N9 => ?_ | refine fun e9 g9 h9 x9 tk9 F9 U9 R9 => ?_)))
local macro_rules | `(tactic| walk_at "noteFrame ref") => `(tactic| (k_here; k_dflt (refine' caught_SN0 (T' := "ValueError") ?R ?F ?K ?U ?XB ?TB ?D ?T0 ?ex PyProof.Rows.Boot.«ValueError» ?hn PySem.F.isExc_ValueError PySem.F.notTuple_ValueError ?hs ?_; (case R => assumption); (case F => assumption); (case K => assumption); (case U => assumption); (case XB => exact Gd.x (by assumption)); (case TB => exact Gd.t (by assumption)); (case D => assumption); (case T0 => exact KtsTurn.refl); (case hs => kts_sub); (case ex => k_is); (case hn => decide); k_whole); intro h' g' T' F' N' K' X' P' D'; (try k_lift K'); (try k_sweep)))
section
variable {w : World} {mean : ExcName → Option Value} {mg mb : Str → Option Value} {dp un : Nat} {gd : Option (List Code)} {cn : Str} {cs : Scope} {a : Addr} {ccd : Value} {outer : List Env} {A₀ : Around} {base h₀ : Heap} {L : Addr} {m : Str → Option Value} {news : List (Addr × Obj)} {s : Shared} {Q E : Value → Shared → Prop} {x : Str} {t : Tok}
theorem lread_c
    (B : Below A₀ base outer h₀) (F : Fr h₀ L s.heap m) (X : (K w.params).In h₀) (N : News h₀ L s.heap news) (T : Top q loose mean mg mb h₀) (hk : cs.kind = .function)
    (G : Gd w.params mean mg mb base) (D : KtsDicts (outer.filterMap (·.frame)) h₀)
    (hbs : ∀ c ∈ x.cps.toList, (Str.ofString "\\").cps.toList.contains c = false) (hsz : x.length ≤ 1000)
    (hd : dp + 12 < recursionLimit) (hu : un + 140 < cLine)
    (hret : ∀ ws, reads x.cps.toList = some ws → ∀ S vs c' h₀' h' tk', StrsAre vs (txts ws) → KtsTurn (outer.filterMap (·.frame)) h₀ h₀' → Below A₀ base outer h₀' → (K w.params).In h₀' → Top q loose mean mg mb h₀' → KtsDicts (outer.filterMap (·.frame)) h₀' → Fr h₀' L h' m → News h₀' L h' ((S, lst vs c') :: news) → Q (.ref S) { s with heap := h', toks := tk' })
    (hX : reads x.cps.toList = none → ∀ h₀' h' tk', KtsTurn (outer.filterMap (·.frame)) h₀ h₀' → Below A₀ base outer h₀' → (K w.params).In h₀' → Top q loose mean mg mb h₀' → KtsDicts (outer.filterMap (·.frame)) h₀' → Fr h₀' L h' m → News h₀' L h' news → Q .none { s with heap := h', toks := tk' }) :
    wpAny (model pw w) (ktrTop dp un gd cn cs L a ccd [] outer) (call (.ref 783) [.str x t]) Q E s := by
  refine wpAny_call ?_
  k_dflt (walk_at "s_enter")
  k_steps
  all_goals first
    | exact hret _ (by assumption) _ _ _ _ _ _ (by assumption) (by assumption) (by assumption) (by assumption) (by assumption) (by assumption) (by k_asm) (by k_asm)
    | exact hX (by assumption) _ _ _ (by assumption) (by assumption) (by assumption) (by assumption) (by assumption) (by k_asm) (by k_asm)
    | (fail "END")
end
end Mine
end
section
open Lean Meta Elab PySem PySem.W PyProof.Rows
set_option maxRecDepth 100000
set_option maxHeartbeats 0
set_option Elab.async false
set_option linter.unusedVariables false
namespace Mine
/-- no code that `bytearray` looks for on the stack -/
def Clean : Code → Bool
  | .builtin id _ => !((["bytearray.__contains__", "bytearray.__mod__", "bytearray.__rmod__", "_struct.pack_into.held", "bytearray.find.held"] : List String).contains id || PySem.Builtin.Bytes.decodersThatHold.contains id)
  | _ => true
def NoEx (Γ : Ctx) : Prop := Clean Γ.code = true ∧ ∀ x ∈ Γ.below, Clean x.1 = true
def wpG {α : Type} (M : Model) (A : Around) (t : Sem α) (Q : α → Shared → Prop) (E : Value → Shared → Prop) (s : Shared) : Prop :=
  ∀ Γ p, Γ.In A → NoEx Γ → Sem.wp M Γ t (fun a _ s' => Q a s') (fun e _ s' => E e s') p s
def codeG (M : Model) (A : Around) (c : Code) (R : Result → Shared → Prop) (s : Shared) : Prop :=
  ∀ Γ p, Γ.code = c → Γ.Below A → NoEx Γ → wpCode M Γ R p s
section
variable {α β : Type} {M : Model} {A : Around} {E : Value → Shared → Prop} {s : Shared}
theorem wpG.of {t : Sem α} {Q : α → Shared → Prop} (h : wpAny M A t Q E s) : wpG M A t Q E s := fun Γ p hΓ _ => h Γ p hΓ
theorem codeG.of {c : Code} {R : Result → Shared → Prop} (h : codeAny M A c R s) : codeG M A c R s := fun Γ p hc hΓ _ => h Γ p hc hΓ
theorem wpG_mono {t : Sem α} {Q Q' : α → Shared → Prop} {E' : Value → Shared → Prop} (h : wpG M A t Q E s) (hQ : ∀ a s, Q a s → Q' a s) (hE : ∀ e s, E e s → E' e s) : wpG M A t Q' E' s :=
  fun Γ p hΓ hc => Sem.wp_mono M Γ t (fun a _ s => hQ a s) (fun e _ s => hE e s) p s (h Γ p hΓ hc)
theorem wpG_bind {m : Sem α} {f : α → Sem β} {Q : β → Shared → Prop} (h : wpG M A m (fun a s' => wpG M A (f a) Q E s') E s) : wpG M A (m >>= f) Q E s := fun Γ p hΓ hc => by
  rw [Sem.wp_bind']
  exact Sem.wp_mono M Γ m (fun a p' s' h' => h' Γ p' hΓ hc) (fun _ _ _ h' => h') p s (h Γ p hΓ hc)
/-- the first part in the old logic -/
theorem wpG_step {m : Sem α} {f : α → Sem β} {Q : β → Shared → Prop} (h : wpAny M A m (fun a s' => wpG M A (f a) Q E s') E s) : wpG M A (m >>= f) Q E s := wpG_bind (.of h)
theorem wpG_pure {a : α} {Q : α → Shared → Prop} (h : Q a s) : wpG M A (pure a) Q E s := fun _ _ _ _ => h
theorem wpG_holding {vs : List Value} {m : Sem α} {Q : α → Shared → Prop} (h : wpG M A m Q E s) : wpG M A (holding vs m) Q E s :=
  fun Γ p hΓ hc => by rw [Sem.wp_holding]; exact h Γ p hΓ hc
theorem wpG_onRaise {m : Sem α} {k : Value → Sem Unit} {Q : α → Shared → Prop} (h : wpG M A m Q (fun e s' => wpAny M A (k e) (fun _ s'' => E e s'') E s') s) : wpG M A (m.onRaise k) Q E s := fun Γ p hΓ hc => by
  rw [Sem.wp_onRaise]
  exact Sem.wp_mono M Γ m (fun _ _ _ h' => h') (fun e p' s' h' => h' Γ p' hΓ) p s (h Γ p hΓ hc)
theorem NoEx.enter {Γ : Ctx} {c : Code} {hd : Option Value} {p : Pos} (h : NoEx Γ) (hc : Clean c = true) : NoEx (Γ.enter c hd p) :=
  ⟨hc, fun x hx => by
    rcases List.mem_cons.mp hx with rfl | hx
    · exact h.1
    · exact h.2 x hx⟩
theorem codeG_of_tree {c : Code} {R : Result → Shared → Prop}
    (h : wpG M (A.under c) (M.den c) (fun fin s' => match fin with | .done f => R (.ok f) s' | .again c' => c'.quiet = true ∧ Clean c' = true ∧ codeG M A c' R s')
      (fun e s' => R (.error e) s') s) : codeG M A c R s := fun Γ p hc hΓ hcl => by
  rw [wpCode_iff_wp, hc]
  refine Sem.wp_mono M Γ _ (fun fin p' s' h' => ?_) (fun _ _ _ h' => h') p s (h Γ p (hc ▸ hΓ.in) hcl)
  cases fin with
  | done f => exact h'
  | again c' => exact ⟨h'.1, h'.2.2 (Γ.goto c') p' rfl (hΓ.goto c') ⟨h'.2.1, hcl.2⟩⟩
theorem codeG_mono {c : Code} {R R' : Result → Shared → Prop} (h : codeG M A c R s) (hR : ∀ r s, R r s → R' r s) : codeG M A c R' s := fun Γ p hc hΓ hcl => wpCode_mono hR (h Γ p hc hΓ hcl)
theorem wpG_run {c : Code} {h : Option Value} {Q : Flow → Shared → Prop}
    (hc : codeG M (A.mark h) c (fun r s' => match r with | .ok f => Q f s' | .error e => E e s') s) (hcl : Clean c = true) (hnb : h ≠ some byPass := by intro x; cases x) :
    wpG M A (run c h) Q E s :=
  fun Γ p hΓ hx => by rw [Sem.wp_run]; exact hc _ p rfl (hΓ.enter c h p hnb) (hx.enter hcl)
theorem wpG_runValue {c : Code} {Q : Value → Shared → Prop}
    (hc : codeG M A c (fun r s' => match r with | .ok (.ret v) => Q v s' | .ok _ => False | .error e => E e s') s) (hcl : Clean c = true) :
    wpG M A (runValue c) Q E s := fun Γ p hΓ hx => by rw [Sem.wp_runValue]; exact hc _ p rfl (hΓ.enter c none p (by intro x; cases x)) (hx.enter hcl)
theorem wpG_call {f : Value} {pos : List Value} {kw : List (Str × Value)} {Q : Value → Shared → Prop}
    (hc : codeG M A (.call f ⟨pos, kw⟩) (fun r s' => match r with | .ok (.ret v) => Q v s' | .ok _ => False | .error e => E e s') s) :
    wpG M A (call f pos kw) Q E s := wpG_runValue hc rfl
theorem wpG_runOwn {env : Env} {c : Code} {h : Option Value} {Q : Flow → Shared → Prop}
    (hc : codeG M (A.mark h) c (fun r s' => match r with | .ok f => Q f s' | .error e => cameBackBy M A env E e s') s) (hcl : Clean c = true) (hnb : h ≠ some byPass := by intro x; cases x) :
    wpG M A (runOwn c env h) Q E s := by
  unfold runOwn
  exact wpG_onRaise (wpG_run hc hcl hnb)
theorem clean_any {f : Code × Pos → Bool} (hf : ∀ c p, Clean c = true → f (c, p) = false) {Γ : Ctx} (h : NoEx Γ) (p : Pos) : ((Γ.code, p) :: Γ.below).any f = false := by
  rw [List.any_cons, hf _ _ h.1, Bool.false_or, List.any_eq_false]
  intro x hx
  rw [show x = (x.1, x.2) from rfl, hf _ _ (h.2 x hx)]
  exact Bool.false_ne_true
theorem wpG_exported {self : Value} {Q : Bool → Shared → Prop} (h : Q false s) : wpG M A (PySem.Builtin.Bytes.exported self) Q E s := fun Γ p hΓ hc => by
  unfold PySem.Builtin.Bytes.exported
  show Q (((Γ.code, p) :: Γ.below).any _) s
  rw [clean_any ?_ hc]
  · exact h
  · intro c p hcl
    split <;> first
      | rfl
      | (rename_i heq; cases heq; simp [Clean] at hcl; done)
      | (rename_i heq; cases heq; simp only [Clean, Bool.not_eq_true', Bool.or_eq_false_iff] at hcl; rw [hcl.2, Bool.and_false])
end
section
variable {prog : Program} {w : World} {A : Around} {E : Value → Shared → Prop} {s : Shared} {env : Env}
theorem codeG_builtin {id : String} {args : Args} {b : Builtin} {R : Result → Shared → Prop} (hb : entryFor table id = some b)
    (h : wpG (model prog w) (A.under (.builtin id args)) (b args)
      (fun fin s' => match fin with | .done f => R (.ok f) s' | .again c' => c'.quiet = true ∧ Clean c' = true ∧ codeG (model prog w) A c' R s') (fun e s' => R (.error e) s') s) :
    codeG (model prog w) A (.builtin id args) R s := by
  refine codeG_of_tree ?_
  show wpG _ _ (match entryFor table id with | some b => b args | none => unsupported ((withoutEnding? id "#data").getD id)) _ _ s
  rw [hb]; exact h
theorem codeG_func {body env} {R : Result → Shared → Prop}
    (h : wpG (model prog w) (A.deeper env) (execs body env) (fun f s' => R (.ok (.ret (match f with | .ret v => v | _ => .none))) s')
      (fun e s' => wpAny (model prog w) (A.deeper env) (leaving env e) (fun _ s'' => R (.error e) s'') (fun e' s'' => R (.error e') s'') s') s) :
    codeG (model prog w) A (.func body env) R s := by
  refine codeG_of_tree ?_
  show wpG _ (A.deeper env) (do point; match ← (execs body env).onRaise (leaving env) with | .ret v => ret v | _ => ret .none) _ _ s
  refine wpG_step (wpAny_point (wpG_bind (wpG_onRaise (wpG_mono h (fun f s' h' => ?_) fun _ _ h' => h'))))
  cases f <;> exact wpG_pure h'
theorem codeG_call_def {R : Result → Shared → Prop} {a : Addr} {o : Obj} {fd : FuncData} {body : List Stmt} {args : Args} {binds : List (Str × Value)}
    (hroom : A.depth < recursionLimit) (ho : s.heap.get? a = some o) (hdata : o.data = .func fd) (hlim : s.heap.NoLimit) (hcd : s.heap.CodeRec fd.code fd.qualname)
    (hbody : fd.body = .stmts body) (hbind : BindsTo s fd args binds)
    (hcell : ∀ x ∈ fd.scope.names, x.2 ≠ .cell) (hloc : ∀ x ∈ binds, fd.scope.names.lookup x.1 = some .local)
    (h : ∀ h₀, h₀.Ns s.heap.objs.size (fun x => binds.reverse.lookup x) → (∀ b o, s.heap.get? b = some o → h₀.get? b = some o) →
      wpG (model prog w) (A.deeper (callEnv fd s.heap.objs.size a)) (execs body (callEnv fd s.heap.objs.size a)) (fun f s' => R (.ok (.ret (match f with | .ret v => v | _ => .none))) s')
        (fun e s' => wpAny (model prog w) (A.deeper (callEnv fd s.heap.objs.size a)) (leaving (callEnv fd s.heap.objs.size a) e) (fun _ s'' => R (.error e) s'') (fun e' s'' => R (.error e') s'') s')
        { s with heap := h₀, toks := s.toks + binds.length })
    (hco : fd.scope.isCoroutine = false := by rfl) (hgen : fd.scope.isGenerator = false := by rfl) (hk : fd.scope.kind = .function := by rfl) :
    codeG (model prog w) A (.call (.ref a) args) R s := by
  refine codeG_of_tree (wpG.of ?_)
  show wpAny _ A.in1 (callAny (.ref a) args) _ _ s
  simp only [callAny]
  refine wpAny_bind (wpAny_load ho ?_)
  obtain ⟨c, oc, vs, tq, hc, hoc, hdc, hq⟩ := hcd
  simp only [hdata, callFunction, hco, hgen, hbody]
  have hb : wpAny (model prog w) A.in1 (bindArgs fd args) (fun binds s₁ =>
      wpAny (model prog w) A.in1 (newFunctionEnv fd.scope fd.globals fd.closure binds (fd.qualname ++ ".<locals>.") (some a) fd.code none fd.builtins)
        (fun env s₂ => s₂.heap.NoLimit ∧ codeG (model prog w) A (.func body env) R s₂) (fun e s' => R (.error e) s') s₁) (fun e s' => R (.error e) s') s := by
    refine hbind _ _ _ _ (wpAny_newFunctionEnv hcell hloc (fun h₀ hns₀ hsb₀ => ⟨hlim.fresh _ hsb₀, codeG_func (h h₀ hns₀ fun b o e => ?_)⟩) hk)
    exact hsb₀.extBut b o (Nat.ne_of_lt (Heap.lt_size e)) (Heap.get?_push_of_some _ e)
  rw [hc] at hb ⊢
  refine wpAny_bind (m := field (.ref c) 1) (wpAny_field hoc hdc hq (wpAny_bind (wpAny_pure ?_)))
  exact wpAny_bind (wpAny_mono hb (fun binds s₁ h₁ => wpAny_bind (wpAny_mono h₁ (fun env s₂ h₂ => wpAny_bind (wpAny_enterFrame h₂.1 hroom
    (wpAny_pure (And.intro rfl ⟨rfl, h₂.2⟩)))) fun _ _ h' => h')) fun _ _ h' => h')
theorem wpG_execs_cons {M : Model} {st rest} {Q : Flow → Shared → Prop}
    (h : wpG M A (exec st env) (fun f s' => match f with | .next => wpG M A (execs rest env) Q E s' | f => Q f s') E s) :
    wpG M A (execs (st :: rest) env) Q E s := fun Γ p hΓ hc => by
  rw [execs_cons, Sem.wp_bind']
  refine Sem.wp_mono M Γ _ (fun f p' s' h' => ?_) (fun _ _ _ h' => h') _ _ (h Γ p hΓ hc)
  cases f <;> first | exact h' Γ p' hΓ hc | exact h'
theorem wpG_Assign_Name {M : Model} {x pos' value pos} {Q : Flow → Shared → Prop}
    (h : wpG M A (eval value env) (fun v s₁ => wpAny M A (storeName env x v) (fun _ => Q .next) E s₁) E s)
    (hs : swapsWith value (some (.Name x pos')) pos.line env = pure false := by rfl) :
    wpG M A (exec (.Assign [.Name x pos'] value pos) env) Q E s := fun Γ p hΓ hc => by
  simp only [exec_Assign_Name env x pos' value pos hs, Sem.wp_bind', Sem.wp_cmd_standAt, Sem.wp_bindName, Sem.wp_pure']
  exact Sem.wp_mono M Γ _ (fun v _ s₁ h₁ => h₁ Γ _ hΓ) (fun _ _ _ h' => h') _ _ (h Γ _ hΓ hc)
theorem wpG_Call {M : Model} {func : PySem.Expr} {args : List PySem.Expr} {pos : Pos} {Q : Value → Shared → Prop}
    (h : wpAny M A (eval func env) (fun f s₁ => wpG M A (callWith pos f [] (backTo pos (starEach args env)) []) Q E s₁) E s)
    (he : eval (.Call func args [] pos) env = (do callWith pos (← eval func env) [] (backTo pos (starEach args env)) (backToKw pos (keywordEach [] env))) := by rfl) :
    wpG M A (eval (.Call func args [] pos) env) Q E s := by
  rw [he]; exact wpG_step h
theorem wpG_spliced_nil {M : Model} {Q : List Value → Shared → Prop} (h : Q [] s) : wpG M A (spliced []) Q E s := wpG_pure h
theorem wpG_spliced_cons {M : Model} {x : Sem Value} {rest : List (Bool × Sem Value)} {Q : List Value → Shared → Prop}
    (h : wpG M A x (fun v s₁ => wpG M A (spliced rest) (fun vs s₂ => Q (v :: vs) s₂) E s₁) E s) : wpG M A (spliced ((false, x) :: rest)) Q E s := by
  rw [spliced]
  refine wpG_bind (wpG_mono h (fun v s₁ h₁ => ?_) fun _ _ x => x)
  simp only [Bool.false_eq_true, if_false]
  exact wpG_step (wpAny_pure (wpG_bind (wpG_holding (wpG_mono h₁ (fun vs s₂ h₂ => wpG_pure h₂) fun _ _ x => x))))
theorem wpG_evalArgs {M : Model} {f : Value} {x : Sem Value} {rest : List (Bool × Sem Value)} {Q : Args → Shared → Prop}
    (h : wpG M A (spliced ((false, x) :: rest)) (fun vs s' => Q ⟨vs, []⟩ s') E s) : wpG M A (evalArgs f true ((false, x) :: rest) []) Q E s := by
  unfold evalArgs
  show wpG M A (spliced ((false, x) :: rest) >>= _) Q E s
  refine wpG_bind (wpG_mono h (fun vs s' h' => ?_) fun _ _ x => x)
  refine wpG_holding ?_
  exact wpG_step (wpAny_pure (wpG_step (wpAny_pure (wpG_pure h'))))
theorem wpG_keep {M : Model} {f : Value} {pos : List Value} {kw : List (Str × Value)} {mk : Value} {Q : Value → Shared → Prop} (h : wpG M A (call f pos kw) Q E s) : wpG M A (callMarked mk f pos kw) Q E s := by
  unfold callMarked
  exact fun Γ p hΓ hc => by rw [Sem.wp_keep]; exact h Γ p hΓ hc
theorem wpG_callWith {M : Model} {pos : Pos} {f : Value} {first : List Value} {Q : Value → Shared → Prop} {P : Heap → Prop} {args : List (Bool × Sem Value)} {keywords : List (Option Str × Sem Value)} (hplain : (args.any (·.1) || keywords.any (·.1.isNone)) = false)
    (hk : ∀ h, P h → ∃ k, (k = Keeper.frame ∨ k = Keeper.machine ∨ k = Keeper.boundFrame) ∧ Looks M h (keeperOf f) k)
    (h : wpG M A (evalArgs f true args keywords) (fun a s₁ => P s₁.heap ∧ wpG M A (call f (first ++ a.pos) a.kw) Q E s₁) E s) : wpG M A (callWith pos f first args keywords) Q E s := by
  unfold callWith
  refine wpG_bind (wpG_holding (wpG_mono h (fun a s₁ h₁ => wpG_step (wpAny_standAt ?_)) fun _ _ x => x))
  obtain ⟨k, hk', L⟩ := hk _ h₁.1
  simp only [hplain]
  refine wpG_step (L.here ?_)
  have tail : ∀ {t : Sem Value}, wpG M A t Q E s₁ → wpG M A (t >>= fun r => holding [r] point >>= fun _ => pure r) Q E s₁ :=
    fun ht => wpG_bind (wpG_mono ht (fun r s₂ hr => wpG_step (wpAny_holding (wpAny_point (wpG_pure hr)))) fun _ _ x => x)
  have marked (mk : Value) : wpG M A (callMarked mk f (first ++ a.pos) a.kw) Q E s₁ := wpG_keep h₁.2
  rcases hk' with rfl | rfl | rfl <;> dsimp only <;> first | exact tail h₁.2 | (split <;> first | exact tail h₁.2 | exact tail (marked _))
theorem wpG_callWith_K {M : Model} {K : Frag} {pos : Pos} {f : Value} {first : List Value} {Q : Value → Shared → Prop} {e : PySem.Expr} {rest : List PySem.Expr} (hk : keepIn K f = true)
    (h : wpG M A (spliced (backTo pos (starEach (e :: rest) env))) (fun vs s₁ => K.In s₁.heap ∧ wpG M A (call f (first ++ vs)) Q E s₁) E s)
    (he : starEach (e :: rest) env = (false, eval e env) :: starEach rest env := by rfl) (hplain : (backTo pos (starEach rest env)).any (·.1) = false := by rfl) :
    wpG M A (callWith pos f first (backTo pos (starEach (e :: rest) env)) []) Q E s := by
  rw [he] at h ⊢
  exact wpG_callWith (by show ((false || (backTo pos (starEach rest env)).any (·.1)) || false) = false; rw [hplain]; rfl) (keeps_K hk) (wpG_evalArgs h)
end
end Mine
end
section
open Lean Meta Elab PySem PySem.W PyProof.Rows
set_option maxRecDepth 100000
set_option maxHeartbeats 0
set_option Elab.async false
set_option linter.unusedVariables false
namespace Mine
abbrev baObj (b : Array UInt8) : Obj := { cls := .type "bytearray", data := .bytearray b }
theorem mro_ba : mroOf (.type "bytearray") = pure [.type "bytearray", .type "object"] := by rw [mroOf_type]; kernel_rfl
theorem lookup_ba_new : typeLookup (.type "bytearray") "__new__" = pure (some (.builtin "bytearray.__new__")) := by rw [typeLookup_type, builtinLookup_eq_fast]; kernel_rfl
theorem slot_ba_init : Slot "bytearray" "__init__" "bytearray.__init__" :=
  .of (owner := "bytearray") (n := "__init__") (by rw [typeLookup_type, builtinLookup_eq_fast]; kernel_rfl) (by decide +kernel) (by decide +kernel) (by decide +kernel)
    (by first | exact .inl (by decide +kernel) | exact .inr (by decide +kernel)) (by rw [isSubtype_type]; kernel_rfl)
theorem called_ba : TypeCalled "bytearray" "bytearray.__new__" "bytearray.__init__" :=
  ⟨by decide +kernel, by decide +kernel, ⟨_, _, mro_ba⟩, madeBy_type mro_ba lookup_ba_new (by decide +kernel), by decide +kernel, by rw [isSubtype_type]; kernel_rfl, slot_ba_init⟩
theorem typeCall_ba (a : Value) : checkTypeCall "bytearray" ⟨[a], []⟩ = pure () := by kernel_rfl
theorem newCall_ba (a : Value) : checkBuiltinCall "bytearray.__new__" ⟨[.type "bytearray", a], []⟩ = pure () := by kernel_rfl
theorem entry_ba_new : entryFor table "bytearray.__new__" = some Builtin.«list.__new__» := entryFor_alias (id' := "list.__new__") (by kernel_rfl) (by first | rfl | decide +kernel) (by decide +kernel) (by kernel_rfl)
theorem entry_ba_init : entryFor table "bytearray.__init__" = some Builtin.«bytearray.__init__» := entryFor_of_tree (by kernel_rfl)
theorem plain_ba_new : plainId "bytearray.__new__" = true := by decide +kernel
theorem plain_ba_init : plainId "bytearray.__init__" = true := by decide +kernel
theorem args_ba_init (a b : Value) : argsOk "bytearray.__init__" ⟨[a, b], []⟩ := by unfold argsOk; kernel_rfl
theorem sub_ba_self : isSubtype (.type "bytearray") (.type "bytearray") = pure true := by rw [isSubtype_type]; kernel_rfl
theorem owner_ba_new : ("bytearray.__new__".splitOn ".__new__").headD "" = "bytearray" := by simp +decide [String.splitOn, String.splitOnAux]
theorem no_ba_release : typeLookup (.type "bytearray") "__release_buffer__" = pure (some (.builtin "bytearray.__release_buffer__")) := by rw [typeLookup_type, builtinLookup_eq_fast]; kernel_rfl
section
variable {prog : Program} {w : World} {A : Around} {E : Value → Shared → Prop} {s : Shared}
theorem code_ba_new (a : Value) {Q₁ : Value → Shared → Prop}
    (h : Q₁ (.ref s.heap.objs.size) { s with heap := s.heap.push (baObj #[]) }) :
    codeAny (model prog w) A (.call (.builtin "bytearray.__new__") ⟨[.type "bytearray", a], []⟩) (wants Q₁ E) s := by
  refine codeAny_of_tree ?_
  show wpAny _ A.in1 (do checkBuiltinCall "bytearray.__new__" ⟨[.type "bytearray", a], []⟩; again (.builtin "bytearray.__new__" ⟨[.type "bytearray", a], []⟩)) _ _ s
  refine wpAny_bind (wpAny_of_eq (newCall_ba a) (wpAny_pure ⟨plainId_quiet plain_ba_new _, codeAny_builtin_stack entry_ba_new rfl fun p st => ?_⟩))
  rw [Around.under_plainId plain_ba_new _]
  have hsub := sub_ba_self
  have hown := owner_ba_new
  obtain ⟨hp, g, d, tk, os⟩ := s
  simp only [hown]
  wp_walk
  exact h
theorem wpG_if_false {α : Type} {M : Model} {c : Bool} {a b : Sem α} {Q : α → Shared → Prop} (hc : c = false) (h : wpG M A b Q E s) : wpG M A (if c = true then a else b) Q E s := by
  subst hc
  exact h
theorem wpG_if_true {α : Type} {M : Model} {c : Bool} {a b : Sem α} {Q : α → Shared → Prop} (hc : c = true) (h : wpG M A a Q E s) : wpG M A (if c = true then a else b) Q E s := by
  subst hc
  exact h
theorem clean_call (id : String) (args args' : Args) (h : Clean (.builtin id args) = true) : Clean (.builtin id args') = true := h
theorem codeG_call_builtin {id : String} {args : Args} {b : Builtin} {R : Result → Shared → Prop} (hq : plainId id = true) (hcl : Clean (.builtin id args) = true) (hb : entryFor table id = some b)
    (h : wpAny (model prog w) A.in1 (checkBuiltinCall id args) (fun _ s₁ => wpG (model prog w) A.in1 (b args)
      (fun fin s' => match fin with | .done f => R (.ok f) s' | .again c' => c'.quiet = true ∧ Clean c' = true ∧ codeG (model prog w) A c' R s') (fun e s' => R (.error e) s') s₁)
      (fun e s' => R (.error e) s') s) : codeG (model prog w) A (.call (.builtin id) args) R s := by
  refine codeG_of_tree ?_
  show wpG _ A.in1 (do checkBuiltinCall id args; again (.builtin id args)) _ _ s
  refine wpG_step (wpAny_mono h (fun _ s₁ h₁ => wpG_pure ⟨plainId_quiet hq _, hcl, codeG_builtin hb ?_⟩) fun _ _ e => e)
  rw [Around.under_plainId hq _]
  exact h₁
theorem lookup_int_index : typeLookup (.type "int") "__index__" = pure (some (.builtin "int.__index__")) := by rw [typeLookup_type, builtinLookup_eq_fast]; kernel_rfl
theorem fits_small {n : Nat} (h : n ≤ 1000) : (!Builtin.Bytes.fitsIndex (n : Int)) = false := by
  have e : (2 : Int) ^ 63 = 9223372036854775808 := by decide
  unfold Builtin.Bytes.fitsIndex
  rw [e]
  simp only [Bool.not_eq_false', Bool.and_eq_true, decide_eq_true_eq]
  omega
theorem not_max {n : Nat} (h : n ≤ 1000) : (((n : Int)) == 2 ^ 63 - 1) = false := by
  have e : (2 : Int) ^ 63 = 9223372036854775808 := by decide
  rw [e]
  simp only [beq_eq_false_iff_ne, ne_eq]
  omega
theorem not_long {n : Nat} (h : n ≤ 1000) : Builtin.Bytes.tooLong ((n : Int)).toNat = false := by
  unfold Builtin.Bytes.tooLong
  rw [sizeLine_eq, decide_eq_false_iff_not]
  omega
theorem ends_rel : ("bytearray.__release_buffer__".endsWith ("." ++ "__release_buffer__")) = true := by decide +kernel
theorem drop_rel : ("bytearray.__release_buffer__".dropRight ("__release_buffer__".length + 1)) = "bytearray" := by decide +kernel
theorem own_ba {M : Model} {a : Addr} {Q : Bool → Shared → Prop} (hT : s.TypeIs (.ref a) "bytearray") (h : Q false s) : wpAny M A (Builtin.Bytes.ownRelease (.ref a)) Q E s := by
  unfold Builtin.Bytes.ownRelease Builtin.Bytes.slotIsOwn
  refine wpAny_bind (wpAny_bind (wpAny_specialOf hT no_ba_release ?_))
  dsimp only
  rw [ends_rel, drop_rel]
  refine wpAny_isInstance hT sub_ba_self ?_
  exact wpAny_pure h
theorem bind_ba (v : Value) : Builtin.Bytes.bindOptional "bytearray.__init__" "bytearray" ["source", "encoding", "errors"] [v] [] = pure [some v, none, none] := by kernel_rfl
theorem write_ba {M : Model} {a : Addr} {b : Array UInt8} {f : Array UInt8 → Array UInt8} {Q : Unit → Shared → Prop} (ha : s.heap.get? a = some (baObj b)) (hf : (f b).size ≤ 1000)
    (h : ∀ h', h'.get? a = some (baObj (f b)) → Heap.SameBut a s.heap h' → Q () { s with heap := h' }) : wpAny M A (Builtin.Bytes.write (.ref a) f) Q E s := by
  show wpAny _ _ (updateBytearray a f) _ _ _
  unfold updateBytearray
  refine wpAny_bind (wpAny_load ha ?_)
  show wpAny _ _ (update a (Obj.mapBytearray f) >>= fun _ => lookBehind a) _ _ _
  refine wpAny_bind (wpAny_update ha ?_)
  have hS : (s.heap.update a (Obj.mapBytearray f)).get? a = some (baObj (f b)) := Heap.get?_update_self (Obj.mapBytearray f) ha rfl
  refine wpAny_lookBehind hS ?_ (h _ hS (Heap.SameBut.update ..))
  show (if (f b).size > sizeLine then some "bytearray:memory" else none) = none
  rw [if_neg]
  rw [sizeLine_eq]; omega
theorem ba_init {a : Addr} {n : Nat} {t : Tok} {Q : Shared → Prop} (hn : n ≤ 1000) (ha : s.heap.get? a = some (baObj #[]))
    (h : ∀ h' k, h'.get? a = some (baObj (Array.replicate n 0)) → Heap.SameBut a s.heap h' → Q { s with heap := h', toks := k }) :
    wpG (model prog w) A (Builtin.«bytearray.__init__» ⟨[.ref a, .int (n : Nat) t], []⟩) (fun fin s' => fin = .done (.ret .none) ∧ Q s') E s := by
  have hT : s.TypeIs (.ref a) "bytearray" := ⟨_, ha, rfl⟩
  unfold Builtin.«bytearray.__init__»
  refine wpG_step (own_ba hT ?_)
  refine wpG_if_false rfl ?_
  refine wpG_step (wpAny_of_eq (bind_ba _) ?_)
  refine wpG_step (wpAny_of_eq (a := ()) rfl ?_)
  refine wpG_step (wpAny_of_eq (a := ()) rfl ?_)
  refine wpG_bind ?_
  show wpG _ _ (orM _ _) _ _ _
  unfold orM
  refine wpG_bind (wpG_exported ?_)
  show wpG _ _ (Builtin.Bytes.exportsOf (.ref a) >>= _) _ _ _
  unfold Builtin.Bytes.exportsOf
  refine wpG_step (wpAny_bind (wpAny_load ha (wpAny_pure (wpG_pure ?_))))
  refine wpG_if_false (by decide) ?_
  refine wpG_step (write_ba ha (by simp) fun h1 g1 s1 => ?_)
  show wpG _ _ (asStr? (.int (n : Nat) t) >>= _) _ _ _
  have e1 : asStr? (.int (n : Nat) t) = pure none := by
    unfold asStr? notAStandIn
    rfl
  have e2 : specialOf (.int (n : Nat) t) (Str.ofString "__index__") = pure (some (.builtin "int.__index__")) := lookup_int_index
  have e3 : asIndex (.int (n : Nat) t) = pure (n : Int) := rfl
  have H : ∀ {α β : Type} (m : Sem α) (f : α → Sem β) {Q : β → Shared → Prop} {s : Shared}, wpAny (model prog w) A m (fun a s' => wpG (model prog w) A (f a) Q E s') E s → wpG (model prog w) A (m >>= f) Q E s := fun m f _ _ h => wpG_step h
  have IF : ∀ {α : Type} (c : Bool) (a b : Sem α) {Q : α → Shared → Prop} {s : Shared}, c = false → wpG (model prog w) A b Q E s → wpG (model prog w) A (if c = true then a else b) Q E s := fun c a b _ _ hc h => wpG_if_false hc h
  have IT : ∀ {α : Type} (c : Bool) (a b : Sem α) {Q : α → Shared → Prop} {s : Shared}, c = true → wpG (model prog w) A a Q E s → wpG (model prog w) A (if c = true then a else b) Q E s := fun c a b _ _ hc h => wpG_if_true hc h
  refine H _ _ ?_
  trace "0"
  rw [e1]
  refine wpAny_pure ?_
  trace "1"
  refine H _ _ ?_
  trace "2"
  refine wpAny_pure ?_
  trace "3"
  refine H _ _ ?_
  trace "4"
  rw [e2]
  refine wpAny_pure ?_
  refine IT _ _ _ ?c ?_
  case c => rfl
  refine H _ _ ?_
  refine wpAny_attempt ?_
  rw [e3]
  refine wpAny_pure ?_
  dsimp only
  refine IF _ _ _ ?c ?_
  case c => exact fits_small hn
  rw [if_neg (show ¬ ((n : Int) < 0) by omega)]
  refine IF _ _ _ ?c ?_
  case c => exact not_max hn
  refine IF _ _ _ ?c ?_
  case c => exact not_long hn
  refine H _ _ ?_
  refine wpAny_rule ?_
  trace "6"
  by_cases h0 : n = 0
  · subst h0
    rw [if_neg (by simp)]
    exact wpG_pure ⟨rfl, h h1 _ g1 s1⟩
  · rw [if_pos (by omega)]
    refine wpG_step (write_ba g1 (by simp; omega) fun h2 g2 s2 => ?_)
    rw [show ((n : Int)).toNat = n by omega] at g2
    exact wpG_pure ⟨rfl, h h2 _ g2 (s1.trans s2)⟩
theorem call_ba {n : Nat} {t : Tok} {Q : Value → Shared → Prop} (hn : n ≤ 1000)
    (h : ∀ h' k, h'.get? s.heap.objs.size = some (baObj (Array.replicate n 0)) → Heap.SameBut s.heap.objs.size (s.heap.push (baObj #[])) h' → Q (.ref s.heap.objs.size) { s with heap := h', toks := k }) :
    wpG (model prog w) A (call (.type "bytearray") [.int (n : Nat) t]) Q E s := by
  obtain ⟨c, tl, hmro⟩ := called_ba.mro
  have hmade := called_ba.made
  have h1 := called_ba.notType
  have h2 := called_ba.canCreate
  refine wpG_call (codeG_of_tree ?_)
  show wpG _ _ (callAny (.type "bytearray") _) _ _ _
  refine wpG_pure ⟨Code.quiet_builtin _ (by decide +kernel), clean_call "type.__call__" {} _ (by decide +kernel), codeG_builtin F.entry_type_call ?_⟩
  rw [Around.under_plain (weight_type_call_type "bytearray" [.int (n : Nat) t] []) rfl]
  unfold Builtin.«type.__call__»
  refine wpG_if_false h1 ?_
  refine wpG_if_false h2 ?_
  refine wpG_step (wpAny_of_eq (typeCall_ba _) ?_)
  refine wpG_step (wpAny_of_eq hmro ?_)
  refine wpG_if_false rfl ?_
  refine wpG_step (wpAny_of_eq hmade ?_)
  refine wpG_step (wpAny_pure ?_)
  refine wpG_step (wpAny_holding (wpAny_call (code_ba_new _ ?_)))
  have hS : (s.heap.push (baObj #[])).get? s.heap.objs.size = some (baObj #[]) := Heap.get?_push_size _ rfl
  have hT : ({ s with heap := s.heap.push (baObj #[]) } : Shared).TypeIs (.ref s.heap.objs.size) "bytearray" := ⟨_, hS, rfl⟩
  refine wpG_step (wpAny_isInstance hT sub_ba_self ?_)
  refine wpG_if_false rfl ?_
  refine wpG_bind (wpG_holding ?_)
  unfold callSpecial?
  refine wpG_step (wpAny_specialOf hT slot_ba_init.lookup ?_)
  simp only [slot_ba_init.bind]
  refine wpG_holding (wpG_step (wpAny_pure (wpG_bind (wpG_call (codeG_call_builtin plain_ba_init (clean_call "bytearray.__init__" {} _ (by decide +kernel)) entry_ba_init (slot_ba_init.check _ _ _ _ _ _ _ _ hT (args_ba_init _ _) ?_))))))
  refine wpG_mono (ba_init (Q := fun s' => Q (.ref s.heap.objs.size) s') hn hS ?_) ?_ (fun _ _ e => e)
  · intro h' k hg hs
    exact h h' k hg hs
  · rintro fin s' ⟨rfl, hq⟩
    refine wpG_pure ?_
    refine wpG_if_false rfl ?_
    exact wpG_pure hq
end
end Mine
end
section
open Lean Meta Elab PySem PySem.W PyProof.Rows
set_option maxRecDepth 100000
set_option maxHeartbeats 0
set_option Elab.async false
set_option linter.unusedVariables false
set_option linter.deprecated false
namespace Mine
theorem slot_ba_set : Slot "bytearray" "__setitem__" "bytearray.__setitem__" :=
  .of (owner := "bytearray") (n := "__setitem__") (by rw [typeLookup_type, builtinLookup_eq_fast]; kernel_rfl) (by decide +kernel) (by decide +kernel) (by decide +kernel)
    (by first | exact .inl (by decide +kernel) | exact .inr (by decide +kernel)) (by rw [isSubtype_type]; kernel_rfl)
theorem entry_ba_set : entryFor table "bytearray.__setitem__" = some Builtin.«bytearray.__setitem__» := by first | exact entryFor_of_fast (by kernel_rfl) | exact entryFor_of_tree (by kernel_rfl)
theorem args_ba_set (a b c : Value) : argsOk "bytearray.__setitem__" ⟨[a, b, c], []⟩ := by unfold argsOk; kernel_rfl
theorem no_ba_bytes : typeLookup (.type "bytearray") "__bytes__" = pure none := by rw [typeLookup_type, builtinLookup_eq_fast]; kernel_rfl
theorem no_ba_index : typeLookup (.type "bytearray") "__index__" = pure none := by rw [typeLookup_type, builtinLookup_eq_fast]; kernel_rfl
theorem ba_buffer : typeLookup (.type "bytearray") "__buffer__" = pure (some (.builtin "bytearray.__buffer__")) := by rw [typeLookup_type, builtinLookup_eq_fast]; kernel_rfl
theorem ends_buf : ("bytearray.__buffer__".endsWith ("." ++ "__buffer__")) = true := by decide +kernel
theorem drop_buf : ("bytearray.__buffer__".dropRight ("__buffer__".length + 1)) = "bytearray" := by decide +kernel
section
variable {prog : Program} {w : World} {A : Around} {E : Value → Shared → Prop} {s : Shared}
theorem if_bool_false {α : Type} {c : Bool} {x y : α} (h : c = false) : (if c = true then x else y) = y := by rw [h]; rfl
theorem sub_ba {k : Nat} {u : Tok} (hk : k ≤ 1000) : Builtin.Bytes.subscript? (.int (k : Nat) u) = pure (some (k : Int)) := by
  have e3 : asIndex (.int (k : Nat) u) = pure (k : Int) := rfl
  have e2 : specialOf (.int (k : Nat) u) (Str.ofString "__index__") = pure (some (.builtin "int.__index__")) := lookup_int_index
  unfold Builtin.Bytes.subscript?
  rw [e2, pure_bind, e3]
  dsimp only [Option.isNone_some]
  rw [if_bool_false rfl, pure_bind, if_bool_false (fits_small hk)]
theorem val_ba {k : Nat} {u : Tok} (hk : k < 256) : Builtin.Bytes.byteValue (.int (k : Nat) u) = pure k.toUInt8 := by
  have e3 : asIndex (.int (k : Nat) u) = pure (k : Int) := rfl
  unfold Builtin.Bytes.byteValue
  rw [e3, pure_bind, if_bool_false (by simp; omega)]
  rfl
theorem seq_ba {k n : Nat} (h : k < n) : seqIndex? (k : Int) n = some k := by
  unfold seqIndex?
  simp
  omega
theorem ba_set {a : Addr} {b : Array UInt8} {k v : Nat} {u u' : Tok} {Q : Unit → Shared → Prop} (ha : s.heap.get? a = some (baObj b)) (hb : b.size ≤ 1000) (hk : k < b.size) (hv : v < 256)
    (h : ∀ h', h'.get? a = some (baObj (b.setIfInBounds k v.toUInt8)) → Heap.SameBut a s.heap h' → Q () { s with heap := h' }) :
    wpAny (model prog w) A (setItem (.ref a) (.int (k : Nat) u) (.int (v : Nat) u')) Q E s := by
  have hT : s.TypeIs (.ref a) "bytearray" := ⟨_, ha, rfl⟩
  unfold setItem
  refine wpAny_holding ?_
  refine wpAny_bind (wpAny_sequenceKey hT (by decide) ?_)
  refine wpAny_bind (wpAny_callSpecial?_slot (name := Str.ofString "__setitem__") hT slot_ba_set (wpAny_call_entry slot_ba_set hT entry_ba_set ?_ (args_ba_set _ _ _)))
  unfold Builtin.«bytearray.__setitem__»
  refine bm_if_false ?c ?_
  case c => rfl
  dsimp (config := { zeta := false }) only
  rw [sub_ba (by omega), pure_bind]
  dsimp (config := { zeta := false }) only
  rw [val_ba hv, pure_bind]
  refine wpAny_bind ?_
  unfold Builtin.Bytes.payload Builtin.Bytes.payload?
  refine wpAny_bind ?_
  refine wpAny_bind ?_
  refine wpAny_load (o := baObj b) ?c ?_
  case c => exact ha
  dsimp only
  refine wpAny_pure ?_
  refine wpAny_pure ?_
  rw [seq_ba hk]
  dsimp only
  refine wpAny_bind ?_
  refine write_ba (b := b) ?c ?d ?_
  case c => exact ha
  case d => simp; omega
  intro h' g' s'
  exact wpAny_pure ⟨_, rfl, wpAny_pure (h h' g' s')⟩
theorem buf_ba {M : Model} {a : Addr} {b : Array UInt8} {Q : Option (Array UInt8) → Shared → Prop} (ha : s.heap.get? a = some (baObj b)) (h : Q (some b) s) : wpAny M A (Builtin.Bytes.buffer? "bytes.__new__" (.ref a) true) Q E s := by
  have hT : s.TypeIs (.ref a) "bytearray" := ⟨_, ha, rfl⟩
  unfold Builtin.Bytes.buffer?
  refine wpAny_bind (wpAny_specialOf hT ba_buffer ?_)
  dsimp only
  refine wpAny_bind ?_
  unfold Builtin.Bytes.slotIsOwn
  refine wpAny_bind (wpAny_specialOf hT ba_buffer ?_)
  dsimp only
  rw [ends_buf, drop_buf]
  refine wpAny_isInstance hT sub_ba_self ?_
  refine bm_if_false rfl ?_
  refine wpAny_bind (wpAny_specialOf hT ba_buffer ?_)
  refine wpAny_bind (own_ba hT ?_)
  refine bm_if_false rfl ?_
  unfold Builtin.Bytes.payload Builtin.Bytes.payload?
  exact wpAny_bind (wpAny_bind (wpAny_bind (wpAny_load ha (wpAny_pure (wpAny_pure (wpAny_pure h))))))
theorem bytes_new {a : Addr} {b : Array UInt8} {Q : Value → Shared → Prop} (ha : s.heap.get? a = some (baObj b)) (hb : b.size ≤ 1000)
    (hQ : ∀ t k, Q (.bytes b t) { s with toks := k }) :
    codeAny (model prog w) A (.call (.builtin "bytes.__new__") ⟨[.type "bytes", .ref a], []⟩) (wants Q E) s := by
  refine codeAny_of_tree ?_
  show wpAny _ A.in1 (do checkBuiltinCall "bytes.__new__" ⟨[.type "bytes", .ref a], []⟩; again (.builtin "bytes.__new__" ⟨[.type "bytes", .ref a], []⟩)) _ _ s
  refine wpAny_bind (wpAny_of_eq (F.bm_newCall _) (wpAny_pure ⟨plainId_quiet F.bm_plain _, codeAny_builtin F.bm_entry ?_⟩))
  rw [Around.under_plainId F.bm_plain _]
  have hT : s.TypeIs (.ref a) "bytearray" := ⟨_, ha, rfl⟩
  unfold Builtin.«bytes.__new__»
  refine wpAny_bind (wpAny_of_eq (a := true) rfl ?_)
  refine bm_if_false rfl ?_
  refine wpAny_bind (wpAny_of_eq F.bm_sub ?_)
  refine bm_if_false rfl ?_
  refine wpAny_bind (wpAny_of_eq (F.bm_bind _) ?_)
  refine wpAny_bind (wpAny_of_eq (a := ()) rfl ?_)
  refine wpAny_bind (wpAny_of_eq (a := ()) rfl ?_)
  refine bm_if_false rfl ?_
  refine wpAny_bind (wpAny_specialOf hT no_ba_bytes ?_)
  refine wpAny_bind (wpAny_bind ?_)
  show wpAny _ _ (load a >>= _) _ _ _
  refine wpAny_bind (wpAny_load ha ?_)
  refine wpAny_pure (wpAny_pure ?_)
  refine bm_if_false rfl ?_
  refine wpAny_bind (wpAny_specialOf hT no_ba_index ?_)
  refine bm_if_true rfl ?_
  first
    | show wpAny _ _ (Builtin.Bytes.buffer? "bytes.__new__" (.ref a) true >>= _) _ _ _
    | (refine wpAny_bind ?_; show wpAny _ _ (Builtin.Bytes.buffer? "bytes.__new__" (.ref a) true >>= _) _ _ _)
  refine wpAny_bind (buf_ba ha ?_)
  dsimp only
  refine wpAny_bind (wpAny_rule ?_)
  refine wpAny_bind (wpAny_mkBytes ?_ (by rw [sizeLine_eq]; omega))
  show wpAny _ _ (if (Value.type "bytes" == Value.type "bytes") = true then _ else _) _ _ _
  refine bm_if_true (by decide) ?_
  exact wpAny_pure (hQ _ _)
theorem bytes_of_ba {a : Addr} {b : Array UInt8} {Q : Value → Shared → Prop} (ha : s.heap.get? a = some (baObj b)) (hb : b.size ≤ 1000) (hQ : ∀ t k, Q (.bytes b t) { s with toks := k }) :
    wpAny (model prog w) A (call (.type "bytes") [.ref a]) Q E s := by
  refine callType_codes (Q₁ := fun obj s₁ => s₁.TypeIs obj "bytes" ∧ Q obj s₁) F.bm_called (F.bm_typeCall _) F.entry_object_init
    (bytes_new ha hb fun t k => ⟨PySem.W.typeIs_bytes _ _ _, hQ t k⟩) fun obj s₁ h₁ => ?_
  exact ⟨h₁.1, F.args_object_init_2 obj _, object_init_meets F.bm_called.init.lookup F.bm_called.made (by decide) prog w A.in1 _ s₁ ⟨h₁.1, rfl, h₁.2⟩⟩
end
end Mine
end
section
open Lean Meta Elab PySem PySem.W PyProof.Rows PySem.Calls
set_option maxRecDepth 100000
set_option maxHeartbeats 0
set_option Elab.async false
set_option linter.unusedVariables false
namespace Mine
theorem fillT : (fun (_ : Params → Frag) (_ : OpenLaw) => True) K rw1 := by k_fill; trivial
section
variable {w : World} {mean : ExcName → Option Value} {mg mb : Str → Option Value} {dp un : Nat} {gd : Option (List Code)} {cn : Str} {cs : Scope} {a : Addr} {ccd : Value} {cl : List (Str × Addr)} {outer : List Env} {A₀ : Around} {base h₀ : Heap} {L : Addr} {m : Str → Option Value} {news : List (Addr × Obj)} {s : Shared} {Q E : Value → Shared → Prop}
theorem open_z {pl : Int} {t1 : Tok} {sg : Str} {t2 : Tok}
  (B : Below A₀ base outer h₀) (F : Fr h₀ L s.heap m) (X : (K w.params).In h₀) (N : News h₀ L s.heap news) (T : Top q loose mean mg mb h₀) (hk : cs.kind = .function)
  (hd : dp + 1 < recursionLimit) (hu : un + 8 < cLine)
  (hret : ∀ v t h' tk', v = (if sg = Str.ofString "'" ∧ pl < 2 then 1 - pl else if sg = Str.ofString "\"" ∧ pl ≠ 1 then 2 - pl else pl) → Fr h₀ L h' m → News h₀ L h' news → Q (.int v t) { s with heap := h', toks := tk' }) :
  wpAny (model pw w) (ktrTop dp un gd cn cs L a ccd cl outer) (call (.ref 769) [.int pl t1, .str sg t2]) Q E s := by
    refine wpAny_call ?_
    k_dflt ktr_enter
    k_steps
    all_goals (refine hret _ _ _ _ ?_ (by k_asm) (by k_asm); first | (simp_all; done) | (simp_all; omega) | (simp_all; split <;> simp_all <;> omega) | skip)
theorem one_lit39 (c : Nat) : ((⟨#[c]⟩ : Str) = Str.ofString "'") ↔ c = 39 := by
  have e : Str.ofString "'" = ⟨#[39]⟩ := by decide +kernel
  rw [e]; simp
theorem one_lit34 (c : Nat) : ((⟨#[c]⟩ : Str) = Str.ofString "\"") ↔ c = 34 := by
  have e : Str.ofString "\"" = ⟨#[34]⟩ := by decide +kernel
  rw [e]; simp
theorem open_n {p c : Nat} {t1 t2 : Tok} (hp : p ≤ 2)
  (B : Below A₀ base outer h₀) (F : Fr h₀ L s.heap m) (X : (K w.params).In h₀) (N : News h₀ L s.heap news) (T : Top q loose mean mg mb h₀) (hk : cs.kind = .function)
  (hd : dp + 1 < recursionLimit) (hu : un + 8 < cLine)
  (hret : ∀ t h' tk', Fr h₀ L h' m → News h₀ L h' news → Q (.int (opn p c : Nat) t) { s with heap := h', toks := tk' }) :
  wpAny (model pw w) (ktrTop dp un gd cn cs L a ccd cl outer) (call (.ref 769) [.int (p : Nat) t1, .str ⟨#[c]⟩ t2]) Q E s := by
  refine open_z B F X N T hk hd hu fun v t h' tk' e F' N' => ?_
  have : v = ((opn p c : Nat) : Int) := by
    rw [e]
    simp only [one_lit39, one_lit34]
    unfold opn
    by_cases h1 : c = 39 ∧ p < 2
    · rw [if_pos h1, if_pos ⟨h1.1, by omega⟩]; omega
    · rw [if_neg h1, if_neg (fun q => h1 ⟨q.1, by omega⟩)]
      by_cases h2 : c = 34 ∧ p ≠ 1
      · rw [if_pos h2, if_pos ⟨h2.1, by omega⟩]; omega
      · rw [if_neg h2, if_neg (fun q => h2 ⟨q.1, by omega⟩)]
  rw [this]
  exact hret t h' tk' F' N'
end
theorem call_iter_str {prog : Program} {w : World} {A : Around} {E : Value → Shared → Prop} {s : Shared} {h₀ : Heap} {L : Addr} {m : Str → Option Value} {news : List (Addr × Obj)} {x : Str} {t : Tok} {Q : Value → Shared → Prop} (F : Fr h₀ L s.heap m) (N : News h₀ L s.heap news)
    (h : ∀ (I : Nat) h' oI (St : Nat → Heap → Prop), (∀ A' : Around, A'.handled = none → Walks prog w A' I [I] [I] x.cps.size (SignAt x) St) → (∀ g : Heap, g.get? I = some oI → St 0 g) → Fr h₀ L h' m → News h₀ L h' ((I, oI) :: news) → (∀ p ∈ news, p.1 < I) → Q (.ref I) { s with heap := h' }) :
    wpAny (model prog w) A (call (.builtin "iter") [.str x t]) Q E s := by
  refine call_function_entry (by decide +kernel) (by decide +kernel) kdk_entry_iter (kdk_args_iter _) ?_
  unfold Builtin.«iter»
  refine wpAny_bind (m := someArgs "iter" 1 2 _) (wpAny_of_eq (a := [Value.str x t]) (by first | rfl | kernel_rfl!) ?_)
  show wpAny _ _ (pyIter (.str x t) >>= _) _ _ _
  cases ha : x.cps.all (· < 128)
  · refine wpAny_bind (wpAny_pyIter_wide ha ?_)
    exact wpAny_pure ⟨_, rfl, h _ _ _ _ (fun A' hA => Walks.strWide hA _ x t) (fun g e => ⟨_, e, rfl, rfl⟩) (F.push _) (News.push F N _) (fun q hq => Heap.lt_size (N q hq).1)⟩
  · refine wpAny_bind (wpAny_pyIter_ascii ha ?_)
    exact wpAny_pure ⟨_, rfl, h _ _ _ _ (fun A' hA => Walks.strAscii hA _ x t) (fun g e => ⟨_, e, rfl, rfl⟩) (F.push _) (News.push F N _) (fun q hq => Heap.lt_size (N q hq).1)⟩
noncomputable def rdW : Stmt := litOf (stm freduce_b 2) (by conv => rhs; whnf)
noncomputable def rdB : List Stmt := litOf (match stm freduce_b 2 with | .For _ _ b _ _ => b | _ => []) (by conv => rhs; whnf)
theorem chars_of {x : Str} {i : Nat} {v : Value} (h : SignAt x i v) : ∃ c u, x.cps.toList[i]? = some c ∧ v = .str ⟨#[c]⟩ u := by
  obtain ⟨c, u, hc, hv⟩ := h
  exact ⟨c, u, by rw [← hc, Array.getElem?_toList], hv⟩
section
variable {w : World} {mean : ExcName → Option Value} {mg mb : Str → Option Value} {dp un : Nat} {gd : Option (List Code)} {outer : List Env} {A₀ : Around} {base h₀ : Heap} {L : Addr} {m : Str → Option Value} {news : List (Addr × Obj)} {s : Shared} {Q : Flow → Shared → Prop} {E : Value → Shared → Prop}
local macro_rules | `(tactic| walk_at "call ref") => `(tactic| (k_here; k_dflt (refine' open_n ?rp ?rB ?rF ?rX ?rN ?rT ?rK ?rd ?ru ?_; (case rp => assumption); (case rB => k_asm); (case rF => k_asm); (case rX => k_asm); (case rN => k_asm); (case rT => k_asm); (case rK => first | exact rfl | assumption); (case rd => ktr_room); (case ru => ktr_units); k_whole); intro t9 h9 tk9 F9 N9; (try dsimp only)))
theorem red_turn {p c : Nat} {t u : Tok} {m₀ : Str → Option Value} (hp : p ≤ 2)
    (B : Below A₀ base outer h₀) (X : (K w.params).In h₀) (T : Top q loose mean mg mb h₀)
    (F : Fr h₀ L s.heap (fun y => if y = "element" then some (.str ⟨#[c]⟩ u) else if y = "value" then some (.int (p : Nat) t) else if y = "function" then some (.ref 769) else m₀ y)) (N : News h₀ L s.heap news)
    (hd : dp + 3 < recursionLimit) (hu : un + 20 < cLine)
    (hret : ∀ t' h' tk', Fr h₀ L h' (fun y => if y = "value" then some (.int (opn p c : Nat) t') else if y = "element" then some (.str ⟨#[c]⟩ u) else if y = "value" then some (.int (p : Nat) t) else if y = "function" then some (.ref 769) else m₀ y) → News h₀ L h' news → Q .next { s with heap := h', toks := tk' }) :
    wpAny (model pw w) (ktrTop dp un gd "reduce" freduce_s L 743 (.ref 742) [] outer) (execs rdB (envOf "reduce" freduce_s L 743 (.ref 742))) Q E s := by
  unfold rdB
  k_steps
  all_goals exact hret _ _ _ (by k_asm) (by k_asm)
def RedJ (x : Str) (a : Nat) (news : List (Addr × Obj)) (i : Nat) (m₁ : Str → Option Value) (news₁ : List (Addr × Obj)) : Prop :=
  news₁ = news ∧ m₁ "function" = some (.ref 769) ∧ ∃ t, m₁ "value" = some (.int (opens (x.cps.toList.take i) a : Nat) t)
theorem fr_norm3 {h₀ h : Heap} {L : Addr} {m : Str → Option Value} {v₁ v₂ v₃ : Value} (F : Fr h₀ L h (fun (y : Str) => if y = ("element" : Str) then some v₁ else m y)) (a : m "value" = some v₂) (b : m "function" = some v₃) :
    Fr h₀ L h (fun (y : Str) => if y = ("element" : Str) then some v₁ else if y = ("value" : Str) then some v₂ else if y = ("function" : Str) then some v₃ else m y) := by
  have e : (fun (y : Str) => if y = ("element" : Str) then some v₁ else if y = ("value" : Str) then some v₂ else if y = ("function" : Str) then some v₃ else m y) = (fun (y : Str) => if y = ("element" : Str) then some v₁ else m y) := by
    funext y
    split
    · rfl
    · split
      · rename_i h; rw [h, a]
      · split
        · rename_i h; rw [h, b]
        · rfl
  rw [e]; exact F
theorem red_loop {x : Str} {ap : Nat} {I : Nat} {oI : Obj} {St : Nat → Heap → Prop} {t : Tok} (ha : ap ≤ 2)
    (B : Below A₀ base outer h₀) (F : Fr h₀ L s.heap m) (X : (K w.params).In h₀) (N : News h₀ L s.heap ((I, oI) :: news)) (T : Top q loose mean mg mb h₀)
    (W : ∀ A' : Around, A'.handled = none → Walks (model pw w).prog w A' I [I] [I] x.cps.size (SignAt x) St) (h00 : ∀ g : Heap, g.get? I = some oI → St 0 g) (lI : ∀ p ∈ news, p.1 < I)
    (m1 : m "function" = some (.ref 769)) (m2 : m "it" = some (.ref I)) (m3 : m "value" = some (.int (ap : Nat) t))
    (hd : dp + 3 < recursionLimit) (hu : un + 20 < cLine)
    (hret : ∀ t' (m' : Str → Option Value) h' tk', Fr h₀ L h' (fun y => if y = ("value" : Str) then some (.int (opens x.cps.toList ap : Nat) t') else m' y) → News h₀ L h' news → Q .next { s with heap := h', toks := tk' })
    (hE : PassesOwn (model pw w) (ktrTop dp un gd "reduce" freduce_s L 743 (.ref 742) [] outer) (envOf "reduce" freduce_s L 743 (.ref 742)) E) :
    wpAny (model pw w) (ktrTop dp un gd "reduce" freduce_s L 743 (.ref 742) [] outer) (exec rdW (envOf "reduce" freduce_s L 743 (.ref 742))) Q E s := by
  have W' : Walks pw w (ktrTop dp un gd "reduce" freduce_s L 743 (.ref 742) [] outer) I [I] [I] x.cps.size (SignAt x) St := W _ rfl
  have h0 : St 0 s.heap := h00 _ (N _ List.mem_cons_self).1
  have nI : L ≠ I := fun e => (N _ List.mem_cons_self).2.1 e.symm
  show wpAny _ _ (exec (.For (.Name "element" _) (.Name "it" _) rdB [] _) _) _ _ _
  refine For_invV h₀ (by rfl) (by rfl) ?_ (hE := hE)
  refine ld F m2 ?_
  refine W'.self 0 _ _ _ h0 ?_
  refine ⟨I, [I], [I], x.cps.size, SignAt x, St, m, news, RedJ x ap news, rfl, W', ?_, ?_, ?_, h0, F, fun p hp => N p (List.mem_cons_of_mem _ hp), ⟨rfl, m1, t, by simpa [opens] using m3⟩, ?_, ?_⟩
  · exact fun hm => nI (List.mem_singleton.mp hm)
  · intro b hb
    rw [List.mem_singleton.mp hb]
    exact (N _ List.mem_cons_self).2.2
  · intro p hp hm
    exact Nat.ne_of_lt (lI p hp) (List.mem_singleton.mp hm)
  · rintro i v m₁ news₁ s₁ own ⟨h, tk, rfl⟩ hi hP ⟨rfl, f1, t1, f2⟩ hoff _ _ _ _ F₁ N₁
    obtain ⟨c, u, hc, rfl⟩ := chars_of hP
    refine red_turn (opens_le _ ha) B X T (fr_norm3 F₁ f2 f1) N₁ hd hu ?_
    intro t' h' tk' F' N'
    refine LoopStepV.next (LoopStepU.intro F' N' hoff ⟨rfl, ?_, t', ?_⟩)
    · rfl
    · rw [List.take_add_one, hc]
      show some _ = _
      rw [opens_app]
      rfl
  · rintro h' tk m' news' F' N' _ ⟨rfl, f1, t', f2⟩
    rw [← Array.length_toList, List.take_length] at f2
    refine hret t' m' h' tk ?_ N'
    have e : (fun (y : Str) => if y = ("value" : Str) then some (Value.int ((opens x.cps.toList ap : Nat) : Int) t') else m' y) = m' := by
      funext y
      split
      · rename_i h; rw [h, f2]
      · rfl
    rw [e]; exact F'
end
noncomputable def rdP0 : Stmt := litOf (stm freduce_b 0) (by conv => rhs; whnf)
noncomputable def rdP1 : Stmt := litOf (stm freduce_b 1) (by conv => rhs; whnf)
noncomputable def rdP3 : Stmt := litOf (stm freduce_b 3) (by conv => rhs; whnf)
theorem rd_body : freduce_b = [rdP0, rdP1, rdW, rdP3] := by with_unfolding_all rfl
local macro_rules | `(tactic| walk_at "execs") => `(tactic| (k_here; rw [rd_body]; unfold rdP0 rdP1 rdP3))
theorem is_int_ref {M : Model} {A : Around} {E : Value → Shared → Prop} {s : Shared} {Q : Value → Shared → Prop} {i : Int} {t : Tok} {b : Addr} (h : Q (.bool false) s) : wpAny M A (compareOp .Is (.int i t) (.ref b)) Q E s :=
  wpAny_is_other (by rfl) (by intro e; cases e) h
local macro_rules | `(tactic| walk_at "compareOp Is int ref") => `(tactic| (k_here; k_dflt (refine' is_int_ref ?_; k_whole)))
local macro_rules | `(tactic| walk_at "call builtin:iter") => `(tactic| (k_here; k_dflt (refine' call_iter_str ?rF ?rN ?_; (case rF => k_asm); (case rN => k_asm); k_whole); intro I9 h9 o9 S9 W9 H9 F9 N9 l9; (try k_lt l9); (try dsimp only)))
local macro_rules | `(tactic| walk_at "exec") => `(tactic| (k_here; k_dflt (refine' red_loop ?ra ?rB ?rF ?rX ?rN ?rT ?rW ?r0 ?rl ?m1 ?m2 ?m3 ?rd ?ru ?_ ?rE; (case ra => assumption); (case rB => k_asm); (case rF => k_asm); (case rX => k_asm); (case rN => k_asm); (case rT => k_asm); (case rW => assumption); trace "W"; (case r0 => assumption); trace "0"; (case rl => assumption); (case m1 => exact rfl); (case m2 => exact rfl); (case m3 => exact rfl); trace "m"; (case rd => ktr_room); (case ru => ktr_units); (case rE => passes_own); k_whole); intro t9 m9 h9 tk9 F9 N9; (try dsimp only)))
section
variable {w : World} {mean : ExcName → Option Value} {mg mb : Str → Option Value} {dp un : Nat} {gd : Option (List Code)} {cn : Str} {cs : Scope} {a : Addr} {ccd : Value} {cl : List (Str × Addr)} {outer : List Env} {A₀ : Around} {base h₀ : Heap} {L : Addr} {m : Str → Option Value} {news : List (Addr × Obj)} {s : Shared} {Q E : Value → Shared → Prop}
theorem reduce_c {x : Str} {t1 t2 : Tok} {ap : Nat} (ha : ap ≤ 2)
    (B : Below A₀ base outer h₀) (F : Fr h₀ L s.heap m) (X : (K w.params).In h₀) (N : News h₀ L s.heap news) (T : Top q loose mean mg mb h₀) (hk : cs.kind = .function)
    (hd : dp + 5 < recursionLimit) (hu : un + 40 < cLine)
    (hret : ∀ t' h' tk', Fr h₀ L h' m → News h₀ L h' news → Q (.int (opens x.cps.toList ap : Nat) t') { s with heap := h', toks := tk' }) :
    wpAny (model pw w) (ktrTop dp un gd cn cs L a ccd cl outer) (call (.ref 743) [.ref 769, .str x t1, .int (ap : Nat) t2]) Q E s := by
  refine wpAny_call ?_
  k_dflt (walk_at "c_enter")
  k_steps
  all_goals exact hret _ _ _ (by k_asm) (by k_asm)
end
end Mine
end
section
open PySem PySem.W PyProof.Rows
local macro_rules | `(tactic| walk_at "no such key") => `(tactic| fail)
open Lean Meta Elab PySem PySem.W PyProof.Rows
set_option maxRecDepth 100000
set_option maxHeartbeats 0
set_option Elab.async false
set_option linter.unusedVariables false
namespace Mine
theorem fillU : (fun (_ : Params → Frag) (_ : OpenLaw) => True) K rw1 := by k_fill; trivial
theorem in_chS {M : Program} {w : World} {A : Around} {E : Value → Shared → Prop} {s : Shared} {Q : Value → Shared → Prop} {c : Nat} {Y : Str} {t t' : Tok} (h1 : Y.cps.toList.contains c = true → Q (.bool true) s) (h2 : Y.cps.toList.contains c = false → Q (.bool false) s) :
    wpAny (model M w) A (compareOp .In (.str ⟨#[c]⟩ t) (.str Y t')) Q E s := by
  cases hb : Y.cps.toList.contains c
  · exact in_ch hb (h2 hb)
  · exact in_ch hb (h1 hb)
section
variable {w : World} {mean : ExcName → Option Value} {mg mb : Str → Option Value} {dp un : Nat} {gd : Option (List Code)} {cn : Str} {cs : Scope} {a : Addr} {ccd : Value} {cl : List (Str × Addr)} {outer : List Env} {A₀ : Around} {base h₀ : Heap} {L : Addr} {m : Str → Option Value} {news : List (Addr × Obj)} {s : Shared} {Q E : Value → Shared → Prop}
theorem slice_to {x : Str} {j : Nat} (hj : j ≤ x.cps.toList.length) : (Txt.slice x none (some (j : Int))).cps.toList = x.cps.toList.take j := by
  have h := slice_mid (x := x) (l := x.cps.toList) rfl 0 j (by omega) hj
  have e : Txt.slice x none (some (j : Int)) = Txt.slice x (some ((0 : Nat) : Int)) (some (j : Int)) := by
    unfold Txt.slice
    have : Builtin.Str.strSliceIndices none (some (j : Int)) 1 x.length = Builtin.Str.strSliceIndices (some ((0 : Nat) : Int)) (some (j : Int)) 1 x.length := by
      unfold Builtin.Str.strSliceIndices
      have e0 : max 0 (min (0 : Int) (x.length : Int)) = 0 := by omega
      simp [e0]
    rw [this]
  rw [e, h]
  simp
theorem reduce0_c {x : Str} {t1 t2 : Tok} {j : Nat} (hj : j ≤ x.cps.toList.length)
    (B : Below A₀ base outer h₀) (F : Fr h₀ L s.heap m) (X : (K w.params).In h₀) (N : News h₀ L s.heap news) (T : Top q loose mean mg mb h₀) (hk : cs.kind = .function)
    (hd : dp + 5 < recursionLimit) (hu : un + 40 < cLine)
    (hret : ∀ t' h' tk', Fr h₀ L h' m → News h₀ L h' news → Q (.int (opens (x.cps.toList.take j) 0 : Nat) t') { s with heap := h', toks := tk' }) :
    wpAny (model pw w) (ktrTop dp un gd cn cs L a ccd cl outer) (call (.ref 743) [.ref 769, .str (Txt.slice x none (some (j : Int))) t1, .int 0 t2]) Q E s := by
  refine reduce_c (ap := 0) (by omega) B F X N T hk hd hu ?_
  rw [slice_to hj]
  exact hret
end
local macro_rules | `(tactic| walk_at "call ref") => `(tactic| (k_here; k_dflt (first
  | (refine' reduce0_c ?rp ?rB ?rF ?rX ?rN ?rT ?rK ?rd ?ru ?_; (case rp => assumption); (case rB => k_asm); (case rF => k_asm); (case rX => k_asm); (case rN => k_asm); (case rT => k_asm); (case rK => first | exact rfl | assumption); (case rd => ktr_room); (case ru => ktr_units); k_whole; intro t9 h9 tk9 F9 N9; (try dsimp only))
  | (refine' open_n ?rp ?rB ?rF ?rX ?rN ?rT ?rK ?rd ?ru ?_; (case rp => assumption); (case rB => k_asm); (case rF => k_asm); (case rX => k_asm); (case rN => k_asm); (case rT => k_asm); (case rK => first | exact rfl | assumption); (case rd => ktr_room); (case ru => ktr_units); k_whole; intro t9 h9 tk9 F9 N9; (try dsimp only)))))
local macro_rules | `(tactic| walk_at "compareOp In str str") => `(tactic| (k_here; k_dflt (refine in_chS ?_ ?_) <;> intro hb9))
section
variable {prog : Program} {w : World} {A : Around} {E : Value → Shared → Prop} {s : Shared} {h₀ : Heap} {L : Addr} {S : Nat} {m : Str → Option Value} {news : List (Addr × Obj)} {n : Nat}
theorem app_l {vs : List Value} {x : Value} {Q : Value → Shared → Prop} (F : Fr h₀ L s.heap m) (N : News h₀ L s.heap ((S, lst vs n) :: news)) (ho : ∀ p ∈ news, p.1 ≠ S) (hz : vs.length ≤ 1000)
    (h : ∀ h', Fr h₀ L h' m → News h₀ L h' ((S, lst (vs ++ [x]) (n + 1)) :: news) → Q .none { s with heap := h' }) : wpAny (model prog w) A (call (.builtin "list.append") [.ref S, x]) Q E s := by
  have e : ({ cls := .type "list", dict := none, data := .seq (vs.toArray.push x) (n + 1), slots := #[] } : Obj) = lst (vs ++ [x]) (n + 1) := by
    show Obj.mk _ _ _ _ = Obj.mk _ _ _ _
    simp
  refine append_K F N (Upd.head ho) ?_ ?_
  · intro h' F' N'
    exact h h' F' (e ▸ N')
  · simp [sizeLine_eq]; omega
theorem pop_l {es vs : List Value} {y : Value} {Q : Value → Shared → Prop} (F : Fr h₀ L s.heap m) (N : News h₀ L s.heap ((S, lst es n) :: news)) (he : es = vs ++ [y]) (ho : ∀ p ∈ news, p.1 ≠ S) (hz : vs.length ≤ 1000)
    (h : ∀ h', Fr h₀ L h' m → News h₀ L h' ((S, lst vs (n + 1)) :: news) → Q y { s with heap := h' }) : wpAny (model prog w) A (call (.builtin "list.pop") [.ref S]) Q E s := by
  subst he
  refine kl_pop (p := vs) (y := y) F N ?_ (Upd.head ho) ?_ h
  · simpa using kpa_last y vs
  · simp [sizeLine_eq]; omega
theorem str_item {value slice : PySem.Expr} {x : Str} {j c : Nat} {t u : Tok} {Q : Value → Shared → Prop} (hx : x.cps.toList[j]? = some c) (hz : x.length ≤ 1000)
    (h : Q (.str ⟨#[c]⟩ s.toks) { s with toks := s.toks + 1 })
    (hs : subscripted slice false (.str x t) (.int (j : Nat) u) = operate [.str x t, .int (j : Nat) u] (getItem (.str x t) (.int (j : Nat) u)) := by with_unfolding_all rfl) :
    wpAny (model prog w) A (subscriptTail value slice (.str x t) (.int (j : Nat) u)) Q E s := by
  have hj : j < x.length := by
    have := (List.getElem?_eq_some_iff.mp hx).1
    rw [Array.length_toList] at this
    exact this
  refine tail_any (typeIs_str s x t) F.slot_str_getitem.lookup (PySem.P.getItem_str (c := c) ?_ ?_ h) hs
  · rw [Bool.or_eq_false_iff]
    constructor <;> rw [decide_eq_false_iff_not] <;> omega
  · rw [seq_ba hj]
    show x.cps[j]? = some c
    rw [← hx, Array.getElem?_toList]
end
local macro_rules | `(tactic| walk_at "call builtin:list.append") => `(tactic| (k_here; k_dflt (refine' app_l ?rF ?rN ?ro ?rz ?_; (case rF => k_asm); (case rN => k_asm); (case ro => assumption); (case rz => first | assumption | omega | (simp only [List.length_append, List.length_cons, List.length_nil]; omega)); k_whole); intro h9 F9 N9; (try dsimp only)))
local macro_rules | `(tactic| walk_at "call builtin:list.pop") => `(tactic| (k_here; k_dflt (refine' pop_l ?rF ?rN ?re ?ro ?rz ?_; (case rF => k_asm); (case rN => k_asm); (case re => exact rfl); (case ro => assumption); (case rz => first | assumption | omega); k_whole); intro h9 F9 N9; (try dsimp only)))
local macro_rules | `(tactic| walk_at "subscriptTail Name Name str int") => `(tactic| (k_here; (with_unfolding_all refine' str_item ?k1 ?k2 ?_ ?k3; (case k1 => assumption); (case k2 => assumption); (case k3 => with_unfolding_all rfl); k_whole)))
theorem nil_app (c : Nat) : (Str.ofString "" ++ ⟨#[c]⟩ : Str) = ⟨#[c]⟩ := by
  rw [← nilE, snoc]
  rfl
noncomputable def lwF : Stmt := litOf (stm f_law_words_b 2) (by conv => rhs; whnf)
noncomputable def lwB : List Stmt := litOf (match stm f_law_words_b 2 with | .For _ _ b _ _ => b | _ => []) (by conv => rhs; whnf)
section
variable {w : World} {mean : ExcName → Option Value} {mg mb : Str → Option Value} {dp un : Nat} {gd : Option (List Code)} {outer : List Env} {A₀ : Around} {base h₀ : Heap} {L : Addr} {m : Str → Option Value} {news : List (Addr × Obj)} {s : Shared} {Q : Flow → Shared → Prop} {E : Value → Shared → Prop}
theorem lw_turnF {x : Str} {j c : Nat} {t u : Tok} {S : Nat} {vs : List Value} {n : Nat} {m₀ : Str → Option Value}
    (hsz : x.length ≤ 1000) (hx : x.cps.toList[j]? = some c) (hj : j ≤ x.cps.toList.length) (hp : opens (x.cps.toList.take j) 0 ≤ 2) (ho : ∀ p ∈ news, p.1 ≠ S) (hv : vs.length ≤ 900)
    (B : Below A₀ base outer h₀) (X : (K w.params).In h₀) (T : Top q loose mean mg mb h₀)
    (F : Fr h₀ L s.heap (fun y => if y = "k" then some (.int (j : Nat) u) else if y = "text" then some (.str x t) else if y = "words" then some (.ref S) else if y = "within" then some (.bool false) else m₀ y)) (N : News h₀ L s.heap ((S, lst vs n) :: news))
    (hd : dp + 8 < recursionLimit) (hu : un + 60 < cLine)
    (hret : ∀ (m' : Str → Option Value) vs' n' b' h' tk', m' "text" = some (.str x t) → m' "words" = some (.ref S) → m' "within" = some (.bool b') → (opens (x.cps.toList.take j) 0 = 0 ∧ isWs c = true ∧ vs' = vs ∧ b' = false ∨ ¬ (opens (x.cps.toList.take j) 0 = 0 ∧ isWs c = true) ∧ b' = true ∧ (opn (opens (x.cps.toList.take j) 0) c = opens (x.cps.toList.take j) 0 ∧ (∃ t', vs' = vs ++ [.str ⟨#[c]⟩ t']) ∨ opn (opens (x.cps.toList.take j) 0) c ≠ opens (x.cps.toList.take j) 0 ∧ ∃ t', vs' = vs ++ [.str "" t'])) → Fr h₀ L h' m' → News h₀ L h' ((S, lst vs' n') :: news) → Q .next { s with heap := h', toks := tk' }) :
    wpAny (model pw w) (ktrTop dp un gd "_law_words" f_law_words_s L 776 (.ref 775) [] outer) (execs lwB (envOf "_law_words" f_law_words_s L 776 (.ref 775))) Q E s := by
  unfold lwB
  k_steps
  all_goals (refine' hret _ _ _ _ _ _ ?ea ?eb ?ec ?ed ?ef ?en; (case ef => k_asm); (case en => k_asm); (case ea => rfl); (case eb => rfl); (case ec => rfl); (case ed => first
    | exact .inl ⟨by omega, by unfold isWs; assumption, rfl, rfl⟩
    | exact .inr ⟨by unfold isWs; simp only [*]; simp, rfl, .inl ⟨by omega, _, by rw [nil_app]⟩⟩
    | exact .inr ⟨by unfold isWs; simp only [*]; simp, rfl, .inr ⟨by omega, _, rfl⟩⟩
    | exact .inr ⟨fun q => absurd q.1 (by omega), rfl, .inl ⟨by omega, _, by rw [nil_app]⟩⟩
    | exact .inr ⟨fun q => absurd q.1 (by omega), rfl, .inr ⟨by omega, _, rfl⟩⟩
    | (fail "END")))
theorem lw_turnT {x : Str} {j c : Nat} {t u tw : Tok} {S : Nat} {vs : List Value} {wd : List Nat} {n : Nat} {m₀ : Str → Option Value}
    (hsz : x.length ≤ 1000) (hx : x.cps.toList[j]? = some c) (hj : j ≤ x.cps.toList.length) (hp : opens (x.cps.toList.take j) 0 ≤ 2) (ho : ∀ p ∈ news, p.1 ≠ S) (hv : vs.length ≤ 900) (hwd : wd.length ≤ 1000)
    (B : Below A₀ base outer h₀) (X : (K w.params).In h₀) (T : Top q loose mean mg mb h₀)
    (F : Fr h₀ L s.heap (fun y => if y = "k" then some (.int (j : Nat) u) else if y = "text" then some (.str x t) else if y = "words" then some (.ref S) else if y = "within" then some (.bool true) else m₀ y)) (N : News h₀ L s.heap ((S, lst (vs ++ [.str ⟨wd.toArray⟩ tw]) n) :: news))
    (hd : dp + 8 < recursionLimit) (hu : un + 60 < cLine)
    (hret : ∀ (m' : Str → Option Value) vs' n' b' h' tk', m' "text" = some (.str x t) → m' "words" = some (.ref S) → m' "within" = some (.bool b') → (opens (x.cps.toList.take j) 0 = 0 ∧ isWs c = true ∧ vs' = vs ++ [.str ⟨wd.toArray⟩ tw] ∧ b' = false ∨ ¬ (opens (x.cps.toList.take j) 0 = 0 ∧ isWs c = true) ∧ b' = true ∧ (opn (opens (x.cps.toList.take j) 0) c = opens (x.cps.toList.take j) 0 ∧ (∃ t', vs' = vs ++ [.str ⟨(wd ++ [c]).toArray⟩ t']) ∨ opn (opens (x.cps.toList.take j) 0) c ≠ opens (x.cps.toList.take j) 0 ∧ ∃ t', vs' = vs ++ [.str ⟨wd.toArray⟩ t'])) → Fr h₀ L h' m' → News h₀ L h' ((S, lst vs' n') :: news) → Q .next { s with heap := h', toks := tk' }) :
    wpAny (model pw w) (ktrTop dp un gd "_law_words" f_law_words_s L 776 (.ref 775) [] outer) (execs lwB (envOf "_law_words" f_law_words_s L 776 (.ref 775))) Q E s := by
  have hl : (⟨wd.toArray⟩ : Str).length ≤ 1000 := by show wd.toArray.size ≤ _; simpa using hwd
  unfold lwB
  k_steps
  all_goals (refine' hret _ _ _ _ _ _ ?ea ?eb ?ec ?ed ?ef ?en; (case ef => k_asm); (case en => k_asm); (case ea => rfl); (case eb => rfl); (case ec => rfl); (case ed => first
    | exact .inl ⟨by omega, by unfold isWs; assumption, rfl, rfl⟩
    | exact .inr ⟨by unfold isWs; simp only [*]; simp, rfl, .inl ⟨by omega, _, by rw [snoc]⟩⟩
    | exact .inr ⟨by unfold isWs; simp only [*]; simp, rfl, .inr ⟨by omega, _, rfl⟩⟩
    | exact .inr ⟨fun q => absurd q.1 (by omega), rfl, .inl ⟨by omega, _, by rw [snoc]⟩⟩
    | exact .inr ⟨fun q => absurd q.1 (by omega), rfl, .inr ⟨by omega, _, rfl⟩⟩
    | (fail "END")))
end
end Mine
end
section
open Lean Meta Elab PySem PySem.W PyProof.Rows
set_option maxRecDepth 100000
set_option maxHeartbeats 0
set_option Elab.async false
set_option linter.unusedVariables false
namespace Mine
theorem fillV : (fun (_ : Params → Frag) (_ : OpenLaw) => True) K rw1 := by k_fill; trivial
theorem small_c {n c : Int} (h0 : 0 ≤ n) (h1 : n ≤ 1000) (hc : 0 < c) (hc2 : c ≤ 1000) (z : Builtin.Range.rangeSize 0 n c = k) (z0 : 0 ≤ k) (z1 : k ≤ 1000) : Builtin.Range.small 0 n c = true := by
  unfold Builtin.Range.small
  rw [z]
  simp only [Builtin.Range.rangeFitsLong, Bool.and_eq_true, Bool.or_eq_true, decide_eq_true_eq, beq_iff_eq, if_pos (show c > 0 from hc)]
  refine ⟨⟨⟨⟨⟨?_, ?_⟩, ⟨?_, ?_⟩⟩, ⟨?_, ?_⟩⟩, ⟨?_, ?_⟩⟩, .inr ⟨?_, ?_⟩⟩ <;> omega
section
variable {prog : Program} {w : World} {A : Around} {E : Value → Shared → Prop} {s : Shared} {h₀ : Heap} {m : Str → Option Value} {news : List (Addr × Obj)} {env : Env} {x : Str} {body : List Stmt} {Q : Flow → Shared → Prop}
theorem range_at {r : Addr} {n k : Nat} {c : Nat} {t u v : Tok} (J : Nat → (Str → Option Value) → List (Addr × Obj) → Prop) (hh : A.handled = none)
    (hr : IsRange s.heap r 0 (n : Int) (c : Int) t u v) (hn : n ≤ 1000) (hc : 0 < c) (hc2 : c ≤ 1000) (hk : Builtin.Range.rangeSize 0 (n : Int) (c : Int) = (k : Int)) (hk2 : k ≤ 1000)
    (F : Fr h₀ env.locals s.heap m) (N : News h₀ env.locals s.heap news) (hj : J 0 m news)
    (turn : ∀ (I : Nat) i t m₁ news₁ h tk own, i < k → (∀ p ∈ own, p.1 = I) → (∀ p ∈ news₁, p.1 ≠ I) → J i m₁ news₁ → Fr h₀ env.locals h (fun y => if y = x then some (.int ((i * c : Nat) : Int) t) else m₁ y) → News h₀ env.locals h (own ++ news₁) →
      wpAny (model prog w) A (execs body env) (fun f s' => LoopStepU h₀ env.locals [I] own (J (i + 1)) { s with heap := h, toks := tk } f s') E { s with heap := h, toks := tk })
    (done : ∀ m₁ news₁ h tk, J k m₁ news₁ → Fr h₀ env.locals h m₁ → News h₀ env.locals h news₁ → Q .next { s with heap := h, toks := tk }) :
    wpAny (model prog w) A (pyIter (.ref r)) (fun it s₂ => LoopAtV prog w A h₀ env x body Q E it s₂) E s := by
  refine wpAny_pyIter_range hr (small_c (by omega) (by omega) (by omega) (by omega) hk (by omega) (by omega)) ?_
  have W := Walks.range (prog := prog) (w := w) hh s.heap.objs.size 0 (c : Int) k
  have hI : (s.heap.push { cls := .type "range_iterator", data := .fields #[rawInt 0, rawInt (Builtin.Range.rangeSize 0 (n : Int) (c : Int)), rawInt (c : Int)] }).get? s.heap.objs.size = some { cls := .type "range_iterator", data := .fields #[rawInt 0, rawInt (Builtin.Range.rangeSize 0 (n : Int) (c : Int)), rawInt (c : Int)] } := Heap.get?_push_size _ rfl
  refine ⟨s.heap.objs.size, [s.heap.objs.size], [s.heap.objs.size], k, _, _, m, news, J, rfl, W, ?_, ?_, ?_, ?_, F.push _, (fun p hp => ⟨Heap.get?_push_of_some _ (N p hp).1, (N p hp).2⟩), hj, ?_, ?_⟩
  · intro hm
    exact absurd F.ns.lt ((List.mem_singleton.mp hm) ▸ Nat.lt_irrefl _)
  · intro b hb
    rw [List.mem_singleton.mp hb]
    exact next_is_new F
  · intro p hp hm
    exact absurd (Heap.lt_size (N p hp).1) ((List.mem_singleton.mp hm) ▸ Nat.lt_irrefl _)
  · show IsRangeIter _ _ _ _ _
    rw [hk] at hI
    simpa [IsRangeIter, hk] using hI
  · rintro i v m₁ news₁ s₁ own ⟨hh', tk', rfl⟩ hin ⟨t, rfl⟩ hJ hoff hown _ _ _ F₁ N₁
    have e : (0 : Int) + (i : Int) * (c : Int) = ((i * c : Nat) : Int) := by push_cast; omega
    rw [e] at F₁
    refine wpAny_mono (turn s.heap.objs.size i t m₁ news₁ hh' tk' own hin (fun p hp => List.mem_singleton.mp (hown p hp)) (fun p hp h => hoff p hp (List.mem_singleton.mpr h)) hJ F₁ N₁) (fun f s₂ p => ?_) fun _ _ e => e
    exact LoopStepV.ofU p
  · rintro h' tk m' news' F' N' _ hJ
    exact done m' news' h' tk hJ F' N'
end
def LwJ (x : Str) (t : Tok) (S : Nat) (rest : List (Addr × Obj)) (i : Nat) (m₁ : Str → Option Value) (news₁ : List (Addr × Obj)) : Prop :=
  ∃ vs n, news₁ = (S, lst vs n) :: rest ∧ m₁ "text" = some (.str x t) ∧ m₁ "words" = some (.ref S) ∧ m₁ "within" = some (.bool (gL ([], none) (ann (x.cps.toList.take i) 0)).2.isSome) ∧ StrsAre vs (txts (wdsL (gL ([], none) (ann (x.cps.toList.take i) 0)))) ∧ (wdsL (gL ([], none) (ann (x.cps.toList.take i) 0))).length ≤ i ∧ ∀ w ∈ wdsL (gL ([], none) (ann (x.cps.toList.take i) 0)), w.length ≤ i
theorem gL_snoc (t : List Nat) (c : Nat) : gL ([], none) (ann (t ++ [c]) 0) = addR (gL ([], none) (ann t 0)) (cls (opens t 0) c) := by
  rw [ann_app]
  show List.foldl addR _ (_ ++ _) = _
  rw [List.foldl_append]
  rfl
theorem strs_snoc {vs : List Value} {l : List (List Nat)} {w : List Nat} {t : Tok} (h : StrsAre vs (txts l)) : StrsAre (vs ++ [.str ⟨w.toArray⟩ t]) (txts (l ++ [w])) := by
  have := kct_snoc (y := (⟨w.toArray⟩ : Str)) (t := t) h
  simpa [txts] using this
theorem strs_last {l : List (List Nat)} {w : List Nat} : ∀ {vs : List Value}, StrsAre vs (txts (l ++ [w])) → ∃ vp t, vs = vp ++ [.str ⟨w.toArray⟩ t] ∧ StrsAre vp (txts l) := by
  induction l with
  | nil =>
    intro vs h
    cases h with
    | cons y t r => cases r; exact ⟨[], t, rfl, .nil⟩
  | cons x r ih =>
    intro vs h
    cases h with
    | cons y t r' =>
      obtain ⟨vp, t', e, h'⟩ := ih r'
      exact ⟨_ :: vp, t', by rw [e]; rfl, .cons _ _ h'⟩
end Mine
end
section
open Lean Meta Elab PySem PySem.W PyProof.Rows
set_option maxRecDepth 100000
set_option maxHeartbeats 0
set_option Elab.async false
set_option linter.unusedVariables false
namespace Mine
theorem fillW : (fun (_ : Params → Frag) (_ : OpenLaw) => True) K rw1 := by k_fill; trivial
theorem fr_norm4 {h₀ h : Heap} {L : Addr} {m : Str → Option Value} {v₁ v₂ v₃ v₄ : Value} (F : Fr h₀ L h (fun (y : Str) => if y = ("k" : Str) then some v₁ else m y)) (a : m "text" = some v₂) (b : m "words" = some v₃) (c : m "within" = some v₄) :
    Fr h₀ L h (fun (y : Str) => if y = ("k" : Str) then some v₁ else if y = ("text" : Str) then some v₂ else if y = ("words" : Str) then some v₃ else if y = ("within" : Str) then some v₄ else m y) := by
  have e : (fun (y : Str) => if y = ("k" : Str) then some v₁ else if y = ("text" : Str) then some v₂ else if y = ("words" : Str) then some v₃ else if y = ("within" : Str) then some v₄ else m y) = (fun (y : Str) => if y = ("k" : Str) then some v₁ else m y) := by
    funext y
    split
    · rfl
    · split
      · rename_i h; rw [h, a]
      · split
        · rename_i h; rw [h, b]
        · split
          · rename_i h; rw [h, c]
          · rfl
  rw [e]; exact F
theorem cls_sep {p c : Nat} (h : p = 0 ∧ isWs c = true) : cls p c = .sep := by unfold cls; rw [if_pos h]
theorem cls_keep {p c : Nat} (h : ¬ (p = 0 ∧ isWs c = true)) (h2 : opn p c = p) : cls p c = .keep c := by unfold cls; rw [if_neg h, if_pos h2]
theorem cls_drop {p c : Nat} (h : ¬ (p = 0 ∧ isWs c = true)) (h2 : opn p c ≠ p) : cls p c = .drop := by unfold cls; rw [if_neg h, if_neg h2]
section
variable {w : World} {mean : ExcName → Option Value} {mg mb : Str → Option Value} {dp un : Nat} {gd : Option (List Code)} {outer : List Env} {A₀ : Around} {base h₀ : Heap} {L : Addr} {m : Str → Option Value} {rest : List (Addr × Obj)} {s : Shared} {Q : Flow → Shared → Prop} {E : Value → Shared → Prop}
theorem lw_step {x : Str} {i c : Nat} {I S : Nat} {t u : Tok} {m₁ : Str → Option Value} {news₁ own : List (Addr × Obj)}
    (hsz : x.length ≤ 900) (hx : x.cps.toList[i]? = some c) (hr : ∀ p ∈ rest, p.1 ≠ S)
    (hown : ∀ p ∈ own, p.1 = I) (hoff : ∀ p ∈ news₁, p.1 ≠ I) (hJ : LwJ x t S rest i m₁ news₁)
    (B : Below A₀ base outer h₀) (X : (K w.params).In h₀) (T : Top q loose mean mg mb h₀)
    (F : Fr h₀ L s.heap (fun y => if y = "k" then some (.int (i : Nat) u) else m₁ y)) (N : News h₀ L s.heap (own ++ news₁))
    (hd : dp + 8 < recursionLimit) (hu : un + 60 < cLine) :
    wpAny (model pw w) (ktrTop dp un gd "_law_words" f_law_words_s L 776 (.ref 775) [] outer) (execs lwB (envOf "_law_words" f_law_words_s L 776 (.ref 775))) (fun f s' => LoopStepU h₀ L [I] own (LwJ x t S rest (i + 1)) s f s') E s := by
  obtain ⟨vs, n, rfl, f1, f2, f3, hv, hlen, hwl⟩ := hJ
  have hil : i < x.cps.toList.length := (List.getElem?_eq_some_iff.mp hx).1
  have hxl : x.cps.toList.length = x.length := by rw [Array.length_toList]; rfl
  have hSI : @Ne Nat S I := hoff _ List.mem_cons_self
  have ho : ∀ p ∈ own ++ rest, p.1 ≠ S := by
    intro p hp
    rcases List.mem_append.mp hp with h | h
    · rw [hown p h]; exact Ne.symm hSI
    · exact hr p h
  have N' : News h₀ L s.heap ((S, lst vs n) :: (own ++ rest)) := by
    intro p hp
    apply N
    simp only [List.mem_cons, List.mem_append] at hp ⊢
    grind
  have back : ∀ {h' : Heap} {vs' : List Value} {n' : Nat}, News h₀ L h' ((S, lst vs' n') :: (own ++ rest)) → News h₀ L h' (own ++ (S, lst vs' n') :: rest) := by
    intro h' vs' n' M p hp
    apply M
    simp only [List.mem_cons, List.mem_append] at hp ⊢
    grind
  have offS : ∀ (vs' : List Value) (n' : Nat), ∀ p ∈ ((S, lst vs' n') :: rest : List (Addr × Obj)), p.1 ∉ [I] := by
    intro vs' n' p hp
    have : p.1 ≠ I := by
      rcases List.mem_cons.mp hp with rfl | hp
      · exact hSI
      · exact hoff p (List.mem_cons_of_mem _ hp)
    simpa using this
  have hvl : vs.length ≤ 900 := by
    have := hv.length
    simp only [txts, List.length_map] at this
    omega
  have ht : x.cps.toList.take (i + 1) = x.cps.toList.take i ++ [c] := by rw [List.take_add_one, hx]; rfl
  have F' := fr_norm4 F f1 f2 f3
  have hp : opens (x.cps.toList.take i) 0 ≤ 2 := opens_le _ (by omega)
  have gs := gL_snoc (x.cps.toList.take i) c
  rw [← ht] at gs
  have key : ∀ (m' : Str → Option Value) vs' n' (b' : Bool) h' tk', m' "text" = some (.str x t) → m' "words" = some (.ref S) → m' "within" = some (.bool b') → b' = (gL ([], none) (ann (x.cps.toList.take (i + 1)) 0)).2.isSome →
      StrsAre vs' (txts (wdsL (gL ([], none) (ann (x.cps.toList.take (i + 1)) 0)))) → (wdsL (gL ([], none) (ann (x.cps.toList.take (i + 1)) 0))).length ≤ i + 1 → (∀ w ∈ wdsL (gL ([], none) (ann (x.cps.toList.take (i + 1)) 0)), w.length ≤ i + 1) →
      Fr h₀ L h' m' → News h₀ L h' ((S, lst vs' n') :: (own ++ rest)) → LoopStepU h₀ L [I] own (LwJ x t S rest (i + 1)) s .next { s with heap := h', toks := tk' } := by
    intro m' vs' n' b' h' tk' a1 a2 a3 a4 a5 a6 a7 a8 a9
    exact LoopStepU.intro a8 (back a9) (offS vs' n') ⟨vs', n', rfl, a1, a2, by rw [a3, a4], a5, a6, a7⟩
  rw [gs] at key
  generalize gL ([], none) (ann (x.cps.toList.take i) 0) = st at *
  obtain ⟨ws, cur⟩ := st
  cases cur with
  | none =>
    refine lw_turnF (by omega) hx (by omega) hp ho hvl B X T F' N' hd hu ?_
    intro m' vs' n' b' h' tk' a1 a2 a3 a4 a5 a6
    simp only [wdsL, Option.toList, List.append_nil] at hv hlen hwl
    rcases a4 with ⟨c1, c2, rfl, rfl⟩ | ⟨c1, rfl, ⟨c2, t', rfl⟩ | ⟨c2, t', rfl⟩⟩
    · rw [cls_sep ⟨c1, c2⟩] at key
      refine key _ _ _ _ _ _ a1 a2 a3 rfl ?_ ?_ ?_ a5 a6
      · simpa [addR, wdsL] using hv
      · simp [addR, wdsL]; omega
      · intro w hw; have := hwl w (by simpa [addR, wdsL] using hw); omega
    · rw [cls_keep c1 c2] at key
      refine key _ _ _ _ _ _ a1 a2 a3 rfl ?_ ?_ ?_ a5 a6
      · have := strs_snoc (w := [c]) (t := t') hv
        simpa [addR, wdsL] using this
      · simp [addR, wdsL]; omega
      · intro w hw
        simp [addR, wdsL] at hw
        rcases hw with hw | rfl
        · have := hwl w hw; omega
        · simp
    · rw [cls_drop c1 c2] at key
      refine key _ _ _ _ _ _ a1 a2 a3 rfl ?_ ?_ ?_ a5 a6
      · have := strs_snoc (w := []) (t := t') hv
        rw [nilE] at this
        simpa [addR, wdsL] using this
      · simp [addR, wdsL]; omega
      · intro w hw
        simp [addR, wdsL] at hw
        rcases hw with hw | rfl
        · have := hwl w hw; omega
        · simp
  | some wd =>
    simp only [wdsL, Option.toList] at hv hlen hwl
    obtain ⟨vp, tw, rfl, hvp⟩ := strs_last hv
    have hwd : wd.length ≤ i := hwl wd (by simp)
    refine lw_turnT (by omega) hx (by omega) hp ho (by simp at hvl; omega) (by omega) B X T F' N' hd hu ?_
    intro m' vs' n' b' h' tk' a1 a2 a3 a4 a5 a6
    rcases a4 with ⟨c1, c2, rfl, rfl⟩ | ⟨c1, rfl, ⟨c2, t', rfl⟩ | ⟨c2, t', rfl⟩⟩
    · rw [cls_sep ⟨c1, c2⟩] at key
      refine key _ _ _ _ _ _ a1 a2 a3 rfl ?_ ?_ ?_ a5 a6
      · simpa [addR, wdsL] using hv
      · simp [addR, wdsL] at hlen ⊢; omega
      · intro w hw; have := hwl w (by simpa [addR, wdsL] using hw); omega
    · rw [cls_keep c1 c2] at key
      refine key _ _ _ _ _ _ a1 a2 a3 rfl ?_ ?_ ?_ a5 a6
      · have := strs_snoc (w := wd ++ [c]) (t := t') hvp
        simpa [addR, wdsL] using this
      · simp [addR, wdsL] at hlen ⊢; omega
      · intro w hw
        simp [addR, wdsL] at hw
        rcases hw with hw | rfl
        · have := hwl w (by simp [hw]); omega
        · simp; omega
    · rw [cls_drop c1 c2] at key
      refine key _ _ _ _ _ _ a1 a2 a3 rfl ?_ ?_ ?_ a5 a6
      · have := strs_snoc (w := wd) (t := t') hvp
        simpa [addR, wdsL] using this
      · simp [addR, wdsL] at hlen ⊢; omega
      · intro w hw
        simp [addR, wdsL] at hw
        rcases hw with hw | rfl
        · have := hwl w (by simp [hw]); omega
        · omega
end
end Mine
end
section
open Lean Meta Elab PySem PySem.W PyProof.Rows
set_option maxRecDepth 100000
set_option maxHeartbeats 0
set_option Elab.async false
set_option linter.unusedVariables false
namespace Mine
theorem fillX : (fun (_ : Params → Frag) (_ : OpenLaw) => True) K rw1 := by k_fill; trivial
noncomputable def lwI : PySem.Expr := litOf (match stm f_law_words_b 2 with | .For _ i _ _ _ => i | _ => .Constant .none 0 default) (by conv => rhs; whnf)
section
variable {w : World} {mean : ExcName → Option Value} {mg mb : Str → Option Value} {dp un : Nat} {gd : Option (List Code)} {outer : List Env} {A₀ : Around} {base h₀ : Heap} {L : Addr} {m : Str → Option Value} {rest news : List (Addr × Obj)} {s : Shared} {Q : Flow → Shared → Prop} {E : Value → Shared → Prop}
def RangeIs (h₀ : Heap) (L : Addr) (m : Str → Option Value) (news : List (Addr × Obj)) (n c : Int) (s : Shared) (xv : Value) (s₁ : Shared) : Prop :=
  ∃ r t u v h tk, xv = .ref r ∧ s₁ = { s with heap := h, toks := tk } ∧ IsRange h r 0 n c t u v ∧ Fr h₀ L h m ∧ News h₀ L h news
theorem lw_loop {x : Str} {S : Nat} {t : Tok} {n : Nat} (hsz : x.length ≤ 900) (hr : ∀ p ∈ rest, p.1 ≠ S)
    (B : Below A₀ base outer h₀) (F : Fr h₀ L s.heap m) (X : (K w.params).In h₀) (N : News h₀ L s.heap ((S, lst [] n) :: rest)) (T : Top q loose mean mg mb h₀)
    (m1 : m "text" = some (.str x t)) (m2 : m "words" = some (.ref S)) (m3 : m "within" = some (.bool false))
    (hd : dp + 8 < recursionLimit) (hu : un + 60 < cLine)
    (hret : ∀ vs n' (m' : Str → Option Value) h' tk', StrsAre vs (txts (wds x.cps.toList)) → Fr h₀ L h' (fun y => if y = ("words" : Str) then some (.ref S) else m' y) → News h₀ L h' ((S, lst vs n') :: rest) → Q .next { s with heap := h', toks := tk' })
    (hE : PassesOwn (model pw w) (ktrTop dp un gd "_law_words" f_law_words_s L 776 (.ref 775) [] outer) (envOf "_law_words" f_law_words_s L 776 (.ref 775)) E) :
    wpAny (model pw w) (ktrTop dp un gd "_law_words" f_law_words_s L 776 (.ref 775) [] outer) (exec lwF (envOf "_law_words" f_law_words_s L 776 (.ref 775))) Q E s := by
  show wpAny _ _ (exec (.For (.Name "k" _) lwI lwB [] _) _) _ _ _
  refine For_invV h₀ (by rfl) (by rfl) ?_ (hE := hE)
  have e0 : (fun (y : Str) => if y = ("text" : Str) then some (.str x t) else m y) = m := by
    funext y
    split
    · rename_i h; rw [h, m1]
    · rfl
  have F0 : Fr h₀ L s.heap (fun y => if y = ("text" : Str) then some (.str x t) else m y) := by
    rw [e0]; exact F
  have I : wpAny (model pw w) (ktrTop dp un gd "_law_words" f_law_words_s L 776 (.ref 775) [] outer) (eval lwI (envOf "_law_words" f_law_words_s L 776 (.ref 775))) (RangeIs h₀ L (fun y => if y = ("text" : Str) then some (.str x t) else m y) ((S, lst [] n) :: rest) (x.length : Int) 1 s) E s := by
    clear F e0
    unfold lwI
    k_steps
    all_goals (exact ⟨_, _, _, _, _, _, rfl, rfl, by assumption, by k_asm, by k_asm⟩)
  refine wpAny_mono I (fun xv s₁ h => ?_) fun _ _ e => e
  obtain ⟨r, t1, u1, v1, h1, tk1, rfl, rfl, hR, F1, N1⟩ := h
  rw [e0] at F1
  have xl : x.cps.toList.length = x.length := by rw [Array.length_toList]; rfl
  refine range_at (n := x.length) (k := x.length) (c := 1) (LwJ x t S rest) rfl hR (by omega) (by omega) (by omega) (by rw [show ((1 : Nat) : Int) = 1 from rfl, rangeSize_nat]; omega) (by omega) F1 N1 ?_ ?_ ?_
  · exact ⟨[], n, rfl, m1, m2, by simpa [ann, gL] using m3, .nil, by simp [ann, gL, wdsL], by simp [ann, gL, wdsL]⟩
  · intro I i t2 m₁ news₁ h tk own hi hown hoff hJ F' N'
    rw [Nat.mul_one] at F'
    obtain ⟨c, hc⟩ : ∃ c, x.cps.toList[i]? = some c := ⟨_, List.getElem?_eq_getElem (by omega)⟩
    exact lw_step hsz hc hr hown hoff hJ B X T F' N' hd hu
  · rintro m₁ news₁ h tk ⟨vs, n', rfl, f1, f2, f3, hv, _, _⟩ F' N'
    rw [← xl, List.take_length] at hv
    refine hret vs n' m₁ h tk hv ?_ N'
    have e : (fun (y : Str) => if y = ("words" : Str) then some (.ref S) else m₁ y) = m₁ := by
      funext y
      split
      · rename_i h; rw [h, f2]
      · rfl
    rw [e]; exact F'
end
noncomputable def lwP0 : Stmt := litOf (stm f_law_words_b 0) (by conv => rhs; whnf)
noncomputable def lwP1 : Stmt := litOf (stm f_law_words_b 1) (by conv => rhs; whnf)
noncomputable def lwP3 : Stmt := litOf (stm f_law_words_b 3) (by conv => rhs; whnf)
theorem lw_body : f_law_words_b = [lwP0, lwP1, lwF, lwP3] := by with_unfolding_all rfl
local macro_rules | `(tactic| walk_at "execs") => `(tactic| (k_here; rw [lw_body]; unfold lwP0 lwP1 lwP3))
local macro_rules | `(tactic| walk_at "exec") => `(tactic| (k_here; k_dflt (refine' lw_loop ?rz ?ro ?rB ?rF ?rX ?rN ?rT ?m1 ?m2 ?m3 ?rd ?ru ?_ ?rE; (case rz => assumption); (case rB => k_asm); (case rF => k_asm); (case rX => k_asm); trace "X"; (case rN => k_asm); trace "N"; (case rT => k_asm); (case ro => first | assumption | exact fun p hp => Nat.ne_of_lt ((by assumption : ∀ p ∈ _, p.1 < _) p hp)); trace "o"; (case m1 => exact rfl); (case m2 => exact rfl); (case m3 => exact rfl); trace "m"; (case rd => ktr_room); (case ru => ktr_units); (case rE => passes_own); k_whole); intro vs9 n9 m9 h9 tk9 hv9 F9 N9; (try dsimp only)))
section
variable {w : World} {mean : ExcName → Option Value} {mg mb : Str → Option Value} {dp un : Nat} {gd : Option (List Code)} {cn : Str} {cs : Scope} {a : Addr} {ccd : Value} {cl : List (Str × Addr)} {outer : List Env} {A₀ : Around} {base h₀ : Heap} {L : Addr} {m : Str → Option Value} {news : List (Addr × Obj)} {s : Shared} {Q E : Value → Shared → Prop}
theorem words_c {x : Str} {t : Tok} (hsz : x.length ≤ 900)
    (B : Below A₀ base outer h₀) (F : Fr h₀ L s.heap m) (X : (K w.params).In h₀) (N : News h₀ L s.heap news) (T : Top q loose mean mg mb h₀) (hk : cs.kind = .function)
    (hd : dp + 10 < recursionLimit) (hu : un + 80 < cLine)
    (hret : ∀ S vs n h' tk', StrsAre vs (txts (wds x.cps.toList)) → (∀ p ∈ news, p.1 < S) → Fr h₀ L h' m → News h₀ L h' ((S, lst vs n) :: news) → Q (.ref S) { s with heap := h', toks := tk' }) :
    wpAny (model pw w) (ktrTop dp un gd cn cs L a ccd cl outer) (call (.ref 776) [.str x t]) Q E s := by
  refine wpAny_call ?_
  k_dflt (walk_at "c_enter")
  k_steps
  all_goals exact hret _ _ _ _ _ (by assumption) (by assumption) (by k_asm) (by k_asm)
end
end Mine
end
section
open PySem PySem.W PyProof.Rows
local macro_rules | `(tactic| walk_at "no such key") => `(tactic| fail)
open Lean Meta Elab PySem PySem.W PyProof.Rows
set_option maxRecDepth 100000
set_option maxHeartbeats 0
set_option Elab.async false
set_option linter.unusedVariables false
namespace Mine
theorem fillY : (fun (_ : Params → Frag) (_ : OpenLaw) => True) K rw1 := by k_fill; trivial
abbrev bytesOf (l : List Nat) : Array UInt8 := (l.map Nat.toUInt8).toArray
theorem bytesOf_size (l : List Nat) : (bytesOf l).size = l.length := by simp
theorem toU_toNat {n : Nat} (h : n < 256) : (n.toUInt8).toNat = n := by
  show n % 256 = n
  omega
theorem bInts_of {l : List Nat} (h : ∀ c ∈ l, c < 256) : KBw.bInts (bytesOf l) = l.map fun c : Nat => (c : Int) := by
  unfold bytesOf
  rw [KBw.ints_list, List.map_map]
  refine List.map_congr_left fun c hc => ?_
  show ((c.toUInt8.toNat : Nat) : Int) = c
  rw [toU_toNat (h c hc)]
theorem set_bytes (l : List Nat) (k v : Nat) : (bytesOf l).setIfInBounds k v.toUInt8 = bytesOf (l.set k v) := by
  apply Array.toList_inj.mp
  rw [Array.toList_setIfInBounds]
  simp [List.map_set]
section
variable {prog : Program} {w : World} {A : Around} {E : Value → Shared → Prop} {s : Shared} {h₀ : Heap} {L : Addr} {S : Nat} {m : Str → Option Value} {news : List (Addr × Obj)}
theorem ba_setN {l : List Nat} {k v : Nat} {ki vi : Int} {u u' : Tok} {Q : Unit → Shared → Prop} (F : Fr h₀ L s.heap m) (N : News h₀ L s.heap ((S, baObj (bytesOf l)) :: news)) (ho : ∀ p ∈ news, p.1 ≠ S)
    (ek : ki = (k : Nat)) (ev : vi = (v : Nat)) (hb : l.length ≤ 1000) (hk : k < l.length) (hv : v < 256)
    (h : ∀ h', Fr h₀ L h' m → News h₀ L h' ((S, baObj (bytesOf (l.set k v))) :: news) → Q () { s with heap := h' }) :
    wpAny (model prog w) A (setItem (.ref S) (.int ki u) (.int vi u')) Q E s := by
  subst ek ev
  have z := N _ List.mem_cons_self
  refine ba_set z.1 (by rw [bytesOf_size]; exact hb) (by rw [bytesOf_size]; exact hk) hv fun h' g' s' => ?_
  rw [set_bytes] at g'
  exact h h' (F.change s' z.2.1 z.2.2) (N.setHead ho s' g')
theorem bytes_item {value slice : PySem.Expr} {l : List Nat} {k : Nat} {ki : Int} {t u : Tok} {Q : Value → Shared → Prop} (hl : ∀ c ∈ l, c < 256) (ek : ki = (k : Nat)) (hk : k < l.length) (hz : l.length ≤ 1000)
    (h : ∀ t' tk, Q (.int (l.getD k 0 : Nat) t') { s with toks := tk })
    (hs : subscripted slice false (.bytes (bytesOf l) t) (.int ki u) = operate [.bytes (bytesOf l) t, .int ki u] (getItem (.bytes (bytesOf l) t) (.int ki u)) := by with_unfolding_all rfl)
    (ht : ∀ r, letTemporaryGo value (.bytes (bytesOf l) t) r = pure () := by intro _; with_unfolding_all rfl) :
    wpAny (model prog w) A (subscriptTail value slice (.bytes (bytesOf l) t) (.int ki u)) Q E s := by
  subst ek
  have e : (l.map fun c : Nat => (c : Int)).getD k 0 = ((l.getD k 0 : Nat) : Int) := by
    rw [List.getD_eq_getElem?_getD, List.getD_eq_getElem?_getD, List.getElem?_map]
    cases l[k]? <;> rfl
  refine KBw.item_K (bInts_of hl) (by rw [List.length_map]; omega) (by omega) (by rw [List.length_map]; omega) (fun t' tk _ _ => ?_) hs ht
  rw [show ((k : Nat) : Int).toNat = k by omega, e]
  exact h t' tk
end
noncomputable def bsF : Stmt := litOf (stm f_byteswap_b 1) (by conv => rhs; whnf)
noncomputable def bsO : List Stmt := litOf (match stm f_byteswap_b 1 with | .For _ _ b _ _ => b | _ => []) (by conv => rhs; whnf)
noncomputable def bsI : Stmt := litOf (stm bsO 0) (by conv => rhs; whnf)
noncomputable def bsB : List Stmt := litOf (match bsI with | .For _ _ b _ _ => b | _ => []) (by conv => rhs; whnf)
local macro_rules | `(tactic| walk_at "subscriptTail Name BinOp bytes int") => `(tactic| (k_here; (with_unfolding_all refine' bytes_item ?k0 ?k1 ?k2 ?kz ?_ ?k3 ?k4; (case k0 => assumption); (case k1 => first | assumption | rfl | (push_cast; omega)); (case k2 => assumption); (case kz => assumption); (case k3 => with_unfolding_all rfl); (case k4 => intro _; with_unfolding_all rfl); k_whole); intro t9 tk9))
local macro_rules | `(tactic| walk_at "setItem ref int") => `(tactic| (k_here; k_dflt (refine' ba_setN ?rF ?rN ?ro ?ek ?ev ?hb ?hk ?hv ?_; (case rF => k_asm); (case rN => k_asm); (case ro => assumption); (case ek => assumption); (case ev => rfl); (case hb => omega); (case hk => assumption); (case hv => assumption); k_whole); intro h9 F9 N9; (try dsimp only)))
section
variable {w : World} {mean : ExcName → Option Value} {mg mb : Str → Option Value} {dp un : Nat} {gd : Option (List Code)} {outer : List Env} {A₀ : Around} {base h₀ : Heap} {L : Addr} {m : Str → Option Value} {rest news : List (Addr × Obj)} {s : Shared} {Q : Flow → Shared → Prop} {E : Value → Shared → Prop}
theorem bs_turn {l st : List Nat} {ri wd j : Nat} {S : Nat} {u ui tw tb : Tok} {m₀ : Str → Option Value} (hl : ∀ c ∈ l, c < 256) (hz : l.length ≤ 1000) (hst : st.length = l.length) (hj : j < wd) (hr : ri + wd ≤ l.length) (hk2 : ri + j < l.length) (hrest : ∀ p ∈ news, p.1 ≠ S)
    (B : Below A₀ base outer h₀) (X : (K w.params).In h₀) (T : Top q loose mean mg mb h₀)
    (F : Fr h₀ L s.heap (fun y => if y = "j" then some (.int (j : Nat) u) else if y = "i" then some (.int (ri : Nat) ui) else if y = "width" then some (.int (wd : Nat) tw) else if y = "data" then some (.bytes (bytesOf l) tb) else if y = "swapped_data" then some (.ref S) else m₀ y)) (N : News h₀ L s.heap ((S, baObj (bytesOf st)) :: news))
    (hd : dp + 8 < recursionLimit) (hu : un + 60 < cLine)
    (hret : ∀ h' tk', Fr h₀ L h' (fun y => if y = "j" then some (.int (j : Nat) u) else if y = "i" then some (.int (ri : Nat) ui) else if y = "width" then some (.int (wd : Nat) tw) else if y = "data" then some (.bytes (bytesOf l) tb) else if y = "swapped_data" then some (.ref S) else m₀ y) → News h₀ L h' ((S, baObj (bytesOf (st.set (ri + wd - 1 - j) (l.getD (ri + j) 0)))) :: news) → Q .next { s with heap := h', toks := tk' }) :
    wpAny (model pw w) (ktrTop dp un gd "_byteswap" f_byteswap_s L 750 (.ref 749) [] outer) (execs bsB (envOf "_byteswap" f_byteswap_s L 750 (.ref 749))) Q E s := by
  have ek : ((ri : Nat) : Int) + ((j : Nat) : Int) = ((ri + j : Nat) : Int) := by omega
  have hv : l.getD (ri + j) 0 < 256 := by
    rw [List.getD_eq_getElem?_getD, List.getElem?_eq_getElem hk2]
    exact hl _ (List.getElem_mem hk2)
  have es : ((ri : Nat) : Int) + ((wd : Nat) : Int) - 1 - ((j : Nat) : Int) = ((ri + wd - 1 - j : Nat) : Int) := by omega
  have hk3 : ri + wd - 1 - j < st.length := by omega
  unfold bsB
  k_steps
  all_goals exact hret _ _ (by k_asm) (by k_asm)
end
end Mine
end
section
open Lean Meta Elab PySem PySem.W PyProof.Rows
set_option maxRecDepth 100000
set_option maxHeartbeats 0
set_option Elab.async false
set_option linter.unusedVariables false
namespace Mine
theorem fillZ : (fun (_ : Params → Frag) (_ : OpenLaw) => True) K rw1 := by k_fill; trivial
def stL (l : List Nat) (wd r j : Nat) : List Nat := (List.range l.length).map fun k => if k / wd < r ∨ (k / wd = r ∧ wd - j ≤ k % wd) then l.getD (k / wd * wd + (wd - 1 - k % wd)) 0 else 0
def swp (l : List Nat) (wd : Nat) : List Nat := (List.range l.length).map fun k => l.getD (k / wd * wd + (wd - 1 - k % wd)) 0
theorem stL_len (l : List Nat) (wd r j : Nat) : (stL l wd r j).length = l.length := by simp [stL]
theorem swp_len (l : List Nat) (wd : Nat) : (swp l wd).length = l.length := by simp [swp]
theorem stL_0 (l : List Nat) (wd : Nat) (hw : 0 < wd) : stL l wd 0 0 = List.replicate l.length 0 := by
  apply List.ext_getElem
  · simp [stL]
  · intro k h1 h2
    simp only [stL, List.getElem_map, List.getElem_range, List.getElem_replicate]
    have h3 := Nat.mod_lt k hw
    generalize k / wd = q at *
    generalize k % wd = t at *
    rw [if_neg (by omega)]
theorem stL_row (l : List Nat) (wd r : Nat) (hw : 0 < wd) : stL l wd r wd = stL l wd (r + 1) 0 := by
  unfold stL
  refine List.map_congr_left fun k _ => ?_
  have := Nat.mod_lt k hw
  by_cases h : k / wd < r ∨ (k / wd = r ∧ wd - wd ≤ k % wd)
  · rw [if_pos h, if_pos (by omega)]
  · rw [if_neg h, if_neg (by omega)]
theorem stL_end (l : List Nat) (wd R : Nat) (hw : 0 < wd) (hR : l.length = R * wd) : stL l wd R 0 = swp l wd := by
  unfold stL swp
  refine List.map_congr_left fun k hk => ?_
  rw [if_pos]
  left
  rw [List.mem_range, hR] at hk
  exact Nat.div_lt_of_lt_mul (by rw [Nat.mul_comm]; exact hk)
theorem divmod {wd r j : Nat} (hj : j < wd) : (r * wd + wd - 1 - j) / wd = r ∧ (r * wd + wd - 1 - j) % wd = wd - 1 - j := by
  have e : r * wd + wd - 1 - j = (wd - 1 - j) + wd * r := by rw [Nat.mul_comm]; omega
  rw [e]
  constructor
  · rw [Nat.add_mul_div_left _ _ (by omega), Nat.div_eq_of_lt (by omega)]; omega
  · rw [Nat.add_mul_mod_self_left, Nat.mod_eq_of_lt (by omega)]
theorem stL_step (l : List Nat) {wd r j R : Nat} (hj : j < wd) (hr : r < R) (hR : l.length = R * wd) : (stL l wd r j).set (r * wd + wd - 1 - j) (l.getD (r * wd + j) 0) = stL l wd r (j + 1) := by
  obtain ⟨d1, d2⟩ := divmod (r := r) hj
  apply List.ext_getElem
  · simp [stL]
  · intro k h1 h2
    rw [List.getElem_set]
    simp only [stL, List.getElem_map, List.getElem_range]
    by_cases e : r * wd + wd - 1 - j = k
    · rw [if_pos e, ← e, d1, d2, if_pos (by omega)]
      congr 1
      omega
    · rw [if_neg e]
      have hk := Nat.div_add_mod k wd
      have hm := Nat.mod_lt k (show wd > 0 by omega)
      have ne : ¬ (k / wd = r ∧ k % wd = wd - 1 - j) := by
        rintro ⟨a, b⟩
        apply e
        rw [a, b, Nat.mul_comm] at hk
        omega
      by_cases h : k / wd < r ∨ (k / wd = r ∧ wd - j ≤ k % wd)
      · rw [if_pos h, if_pos (by omega)]
      · rw [if_neg h, if_neg (by omega)]
theorem swp_rev (l : List Nat) : swp l l.length = l.reverse := by
  apply List.ext_getElem
  · simp [swp]
  · intro k h1 h2
    have hk : k < l.length := by simpa [swp] using h1
    simp only [swp, List.getElem_map, List.getElem_range, List.getElem_reverse]
    rw [Nat.div_eq_of_lt hk, Nat.mod_eq_of_lt hk, Nat.zero_mul, Nat.zero_add, List.getD_eq_getElem?_getD, List.getElem?_eq_getElem (by omega)]
    rfl
def BsI (l : List Nat) (wd r : Nat) (S : Nat) (tw tb ui : Tok) (rest : List (Addr × Obj)) (j : Nat) (m₁ : Str → Option Value) (news₁ : List (Addr × Obj)) : Prop :=
  news₁ = (S, baObj (bytesOf (stL l wd r j))) :: rest ∧ m₁ "i" = some (.int ((r * wd : Nat) : Int) ui) ∧ m₁ "width" = some (.int (wd : Nat) tw) ∧ m₁ "data" = some (.bytes (bytesOf l) tb) ∧ m₁ "swapped_data" = some (.ref S)
def BsO (l : List Nat) (wd : Nat) (S : Nat) (tw tb : Tok) (rest : List (Addr × Obj)) (r : Nat) (m₁ : Str → Option Value) (news₁ : List (Addr × Obj)) : Prop :=
  news₁ = (S, baObj (bytesOf (stL l wd r 0))) :: rest ∧ m₁ "width" = some (.int (wd : Nat) tw) ∧ m₁ "data" = some (.bytes (bytesOf l) tb) ∧ m₁ "swapped_data" = some (.ref S)
theorem fr_norm5 {h₀ h : Heap} {L : Addr} {m : Str → Option Value} {v₁ v₂ v₃ v₄ v₅ : Value} (F : Fr h₀ L h (fun (y : Str) => if y = ("j" : Str) then some v₁ else m y)) (a : m "i" = some v₂) (b : m "width" = some v₃) (c : m "data" = some v₄) (d : m "swapped_data" = some v₅) :
    Fr h₀ L h (fun (y : Str) => if y = ("j" : Str) then some v₁ else if y = ("i" : Str) then some v₂ else if y = ("width" : Str) then some v₃ else if y = ("data" : Str) then some v₄ else if y = ("swapped_data" : Str) then some v₅ else m y) := by
  have e : (fun (y : Str) => if y = ("j" : Str) then some v₁ else if y = ("i" : Str) then some v₂ else if y = ("width" : Str) then some v₃ else if y = ("data" : Str) then some v₄ else if y = ("swapped_data" : Str) then some v₅ else m y) = (fun (y : Str) => if y = ("j" : Str) then some v₁ else m y) := by
    funext y
    split
    · rfl
    · split
      · rename_i h; rw [h, a]
      · split
        · rename_i h; rw [h, b]
        · split
          · rename_i h; rw [h, c]
          · split
            · rename_i h; rw [h, d]
            · rfl
  rw [e]; exact F
noncomputable def bsJ : PySem.Expr := litOf (match bsI with | .For _ i _ _ _ => i | _ => .Constant .none 0 default) (by conv => rhs; whnf)
noncomputable def bsK : PySem.Expr := litOf (match bsF with | .For _ i _ _ _ => i | _ => .Constant .none 0 default) (by conv => rhs; whnf)
section
variable {w : World} {mean : ExcName → Option Value} {mg mb : Str → Option Value} {dp un : Nat} {gd : Option (List Code)} {outer : List Env} {A₀ : Around} {base h₀ : Heap} {L : Addr} {m : Str → Option Value} {rest news : List (Addr × Obj)} {s : Shared} {Q : Flow → Shared → Prop} {E : Value → Shared → Prop}
theorem bs_inner {l : List Nat} {wd r R : Nat} {S : Nat} {tw tb ui u : Tok} (hl : ∀ c ∈ l, c < 256) (hz : l.length ≤ 1000) (hw : 0 < wd) (hw2 : wd ≤ 1000) (hr : r < R) (hR : l.length = R * wd) (hrest : ∀ p ∈ rest, p.1 ≠ S)
    (B : Below A₀ base outer h₀) (F : Fr h₀ L s.heap m) (X : (K w.params).In h₀) (N : News h₀ L s.heap ((S, baObj (bytesOf (stL l wd r 0))) :: rest)) (T : Top q loose mean mg mb h₀)
    (m0 : m "i" = some (.int ((r * wd : Nat) : Int) ui)) (m1 : m "width" = some (.int (wd : Nat) tw)) (m2 : m "data" = some (.bytes (bytesOf l) tb)) (m3 : m "swapped_data" = some (.ref S))
    (hd : dp + 8 < recursionLimit) (hu : un + 60 < cLine)
    (hret : ∀ (m' : Str → Option Value) h' tk', m' "width" = some (.int (wd : Nat) tw) → m' "data" = some (.bytes (bytesOf l) tb) → m' "swapped_data" = some (.ref S) → Fr h₀ L h' m' → News h₀ L h' ((S, baObj (bytesOf (stL l wd (r + 1) 0))) :: rest) → Q .next { s with heap := h', toks := tk' })
    (hE : PassesOwn (model pw w) (ktrTop dp un gd "_byteswap" f_byteswap_s L 750 (.ref 749) [] outer) (envOf "_byteswap" f_byteswap_s L 750 (.ref 749)) E) :
    wpAny (model pw w) (ktrTop dp un gd "_byteswap" f_byteswap_s L 750 (.ref 749) [] outer) (exec bsI (envOf "_byteswap" f_byteswap_s L 750 (.ref 749))) Q E s := by
  show wpAny _ _ (exec (.For (.Name "j" _) bsJ bsB [] _) _) _ _ _
  refine For_invV h₀ (by rfl) (by rfl) ?_ (hE := hE)
  have e0 : (fun (y : Str) => if y = ("width" : Str) then some (.int (wd : Nat) tw) else m y) = m := by
    funext y
    split
    · rename_i h; rw [h, m1]
    · rfl
  have F0 : Fr h₀ L s.heap (fun y => if y = ("width" : Str) then some (.int (wd : Nat) tw) else m y) := by
    rw [e0]; exact F
  have I : wpAny (model pw w) (ktrTop dp un gd "_byteswap" f_byteswap_s L 750 (.ref 749) [] outer) (eval bsJ (envOf "_byteswap" f_byteswap_s L 750 (.ref 749))) (RangeIs h₀ L (fun y => if y = ("width" : Str) then some (.int (wd : Nat) tw) else m y) ((S, baObj (bytesOf (stL l wd r 0))) :: rest) (wd : Int) 1 s) E s := by
    clear F e0
    unfold bsJ
    k_steps
    all_goals exact ⟨_, _, _, _, _, _, rfl, rfl, by assumption, by k_asm, by k_asm⟩
  refine wpAny_mono I (fun xv s₁ h => ?_) fun _ _ e => e
  obtain ⟨rr, t1, u1, v1, h1, tk1, rfl, rfl, hRg, F1, N1⟩ := h
  rw [e0] at F1
  refine range_at (n := wd) (k := wd) (c := 1) (BsI l wd r S tw tb ui rest) rfl hRg (by omega) (by omega) (by omega) (by rw [show ((1 : Nat) : Int) = 1 from rfl, rangeSize_nat]; omega) (by omega) F1 N1 ?_ ?_ ?_
  · exact ⟨rfl, m0, m1, m2, m3⟩
  · rintro I j t2 m₁ news₁ h tk own hj hown hoff ⟨rfl, f0, f1, f2, f3⟩ F' N'
    rw [Nat.mul_one] at F'
    have hle : r * wd + wd ≤ l.length := by
      rw [hR, ← Nat.succ_mul]
      exact Nat.mul_le_mul_right _ hr
    have hSI : @Ne Nat S I := hoff _ List.mem_cons_self
    have N2 : News h₀ L h ((S, baObj (bytesOf (stL l wd r j))) :: (own ++ rest)) := by
      intro p hp
      apply N'
      simp only [List.mem_cons, List.mem_append] at hp ⊢
      grind
    refine bs_turn (ri := r * wd) hl hz (stL_len ..) hj hle (by omega) ?_ B X T (fr_norm5 F' f0 f1 f2 f3) N2 hd hu ?_
    · intro p hp
      rcases List.mem_append.mp hp with h | h
      · rw [hown p h]; exact Ne.symm hSI
      · exact hrest p h
    · intro h' tk' F'' N''
      rw [stL_step l hj hr hR] at N''
      refine LoopStepU.intro F'' (news₂ := (S, baObj (bytesOf (stL l wd r (j + 1)))) :: rest) ?_ ?_ ⟨rfl, ?_, ?_, ?_, ?_⟩
      · intro p hp
        apply N''
        simp only [List.mem_cons, List.mem_append] at hp ⊢
        grind
      · intro p hp
        have : p.1 ≠ I := by
          rcases List.mem_cons.mp hp with rfl | hp
          · exact hSI
          · exact hoff p (List.mem_cons_of_mem _ hp)
        simpa using this
      · rfl
      · rfl
      · rfl
      · rfl
  · rintro m₁ news₁ h tk ⟨rfl, f0, f1, f2, f3⟩ F' N'
    rw [stL_row l wd r hw] at N'
    exact hret m₁ h tk f1 f2 f3 F' N'
end
end Mine
end
section
open Lean Meta Elab PySem PySem.W PyProof.Rows
set_option maxRecDepth 100000
set_option maxHeartbeats 0
set_option Elab.async false
set_option linter.unusedVariables false
namespace Mine
theorem fillAA : (fun (_ : Params → Frag) (_ : OpenLaw) => True) K rw1 := by k_fill; trivial
theorem rangeSize_step (R wd : Nat) (hw : 0 < wd) : Builtin.Range.rangeSize 0 ((R * wd : Nat) : Int) (wd : Int) = (R : Int) := by
  unfold Builtin.Range.rangeSize
  rw [if_pos (by omega)]
  cases R with
  | zero => rw [Nat.zero_mul, if_neg (by omega)]; rfl
  | succ R =>
    have h1 : 0 < (R + 1) * wd := Nat.mul_pos (Nat.succ_pos _) hw
    rw [if_pos (by omega)]
    have e : (((R + 1) * wd : Nat) : Int) - 0 - 1 = (wd : Int) * (R : Int) + ((wd : Int) - 1) := by
      rw [Nat.succ_mul]
      push_cast
      rw [Int.mul_comm]
      omega
    rw [e, Int.mul_add_ediv_left _ _ (by omega), Int.ediv_eq_zero_of_lt (by omega) (by omega)]
    omega
section
variable {w : World} {mean : ExcName → Option Value} {mg mb : Str → Option Value} {dp un : Nat} {gd : Option (List Code)} {outer : List Env} {A₀ : Around} {base h₀ : Heap} {L : Addr} {m : Str → Option Value} {rest news : List (Addr × Obj)} {s : Shared} {Q : Flow → Shared → Prop} {E : Value → Shared → Prop}
theorem bs_outer {l : List Nat} {wd R : Nat} {S : Nat} {tw tb : Tok} (hl : ∀ c ∈ l, c < 256) (hz : l.length ≤ 1000) (hw : 0 < wd) (hw2 : wd ≤ 1000) (hR : l.length = R * wd) (hrest : ∀ p ∈ rest, p.1 ≠ S)
    (B : Below A₀ base outer h₀) (F : Fr h₀ L s.heap m) (X : (K w.params).In h₀) (N : News h₀ L s.heap ((S, baObj (bytesOf (stL l wd 0 0))) :: rest)) (T : Top q loose mean mg mb h₀)
    (m1 : m "width" = some (.int (wd : Nat) tw)) (m2 : m "data" = some (.bytes (bytesOf l) tb)) (m3 : m "swapped_data" = some (.ref S))
    (hd : dp + 8 < recursionLimit) (hu : un + 60 < cLine)
    (hret : ∀ (m' : Str → Option Value) h' tk', Fr h₀ L h' (fun y => if y = ("swapped_data" : Str) then some (.ref S) else m' y) → News h₀ L h' ((S, baObj (bytesOf (swp l wd))) :: rest) → Q .next { s with heap := h', toks := tk' })
    (hE : PassesOwn (model pw w) (ktrTop dp un gd "_byteswap" f_byteswap_s L 750 (.ref 749) [] outer) (envOf "_byteswap" f_byteswap_s L 750 (.ref 749)) E) :
    wpAny (model pw w) (ktrTop dp un gd "_byteswap" f_byteswap_s L 750 (.ref 749) [] outer) (exec bsF (envOf "_byteswap" f_byteswap_s L 750 (.ref 749))) Q E s := by
  show wpAny _ _ (exec (.For (.Name "i" _) bsK [bsI] [] _) _) _ _ _
  refine For_invV h₀ (by rfl) (by rfl) ?_ (hE := hE)
  have e0 : (fun (y : Str) => if y = ("width" : Str) then some (.int (wd : Nat) tw) else if y = ("data" : Str) then some (.bytes (bytesOf l) tb) else m y) = m := by
    funext y
    split
    · rename_i h; rw [h, m1]
    · split
      · rename_i h; rw [h, m2]
      · rfl
  have F0 : Fr h₀ L s.heap (fun y => if y = ("width" : Str) then some (.int (wd : Nat) tw) else if y = ("data" : Str) then some (.bytes (bytesOf l) tb) else m y) := by
    rw [e0]; exact F
  have hsz : (bytesOf l).size ≤ 1000 := by rw [bytesOf_size]; exact hz
  have I : wpAny (model pw w) (ktrTop dp un gd "_byteswap" f_byteswap_s L 750 (.ref 749) [] outer) (eval bsK (envOf "_byteswap" f_byteswap_s L 750 (.ref 749))) (RangeIs h₀ L (fun y => if y = ("width" : Str) then some (.int (wd : Nat) tw) else if y = ("data" : Str) then some (.bytes (bytesOf l) tb) else m y) ((S, baObj (bytesOf (stL l wd 0 0))) :: rest) ((bytesOf l).size : Int) (wd : Int) s) E s := by
    clear F e0
    unfold bsK
    k_steps
    all_goals (exact ⟨_, _, _, _, _, _, rfl, rfl, by assumption, by k_asm, by k_asm⟩)
  refine wpAny_mono I (fun xv s₁ h => ?_) fun _ _ e => e
  obtain ⟨rr, t1, u1, v1, h1, tk1, rfl, rfl, hRg, F1, N1⟩ := h
  rw [e0] at F1
  rw [bytesOf_size] at hRg
  have hRl : R ≤ l.length := by rw [hR]; exact Nat.le_mul_of_pos_right _ hw
  refine range_at (n := l.length) (k := R) (c := wd) (BsO l wd S tw tb rest) rfl hRg hz hw hw2 (by rw [hR]; exact rangeSize_step R wd hw) (by omega) F1 N1 ?_ ?_ ?_
  · exact ⟨rfl, m1, m2, m3⟩
  · rintro I r t2 m₁ news₁ h tk own hr hown hoff ⟨rfl, f1, f2, f3⟩ F' N'
    have hSI : @Ne Nat S I := hoff _ List.mem_cons_self
    have N2 : News h₀ L h ((S, baObj (bytesOf (stL l wd r 0))) :: (own ++ rest)) := by
      intro p hp
      apply N'
      simp only [List.mem_cons, List.mem_append] at hp ⊢
      grind
    refine wpAny_execs_cons (bs_inner (ui := t2) (u := 0) (tw := tw) (tb := tb) hl hz hw hw2 hr hR ?_ B F' X N2 T ?_ ?_ ?_ ?_ hd hu ?_ hE)
    · intro p hp
      rcases List.mem_append.mp hp with h | h
      · rw [hown p h]; exact Ne.symm hSI
      · exact hrest p h
    · exact if_pos rfl
    · exact (if_neg (by decide)).trans f1
    · exact (if_neg (by decide)).trans f2
    · exact (if_neg (by decide)).trans f3
    · intro m' h' tk' g1 g2 g3 F'' N''
      refine wpAny_execs_nil ?_
      refine LoopStepU.intro F'' (news₂ := (S, baObj (bytesOf (stL l wd (r + 1) 0))) :: rest) ?_ ?_ ⟨rfl, g1, g2, g3⟩
      · intro p hp
        apply N''
        simp only [List.mem_cons, List.mem_append] at hp ⊢
        grind
      · intro p hp
        have : p.1 ≠ I := by
          rcases List.mem_cons.mp hp with rfl | hp
          · exact hSI
          · exact hoff p (List.mem_cons_of_mem _ hp)
        simpa using this
  · rintro m₁ news₁ h tk ⟨rfl, f1, f2, f3⟩ F' N'
    rw [stL_end l wd R hw hR] at N'
    refine hret m₁ h tk ?_ N'
    have e : (fun (y : Str) => if y = ("swapped_data" : Str) then some (.ref S) else m₁ y) = m₁ := by
      funext y
      split
      · rename_i h; rw [h, f3]
      · rfl
    rw [e]; exact F'
end
end Mine
end
section
open Lean Meta Elab PySem PySem.W PyProof.Rows
set_option maxRecDepth 100000
set_option maxHeartbeats 0
set_option Elab.async false
set_option linter.unusedVariables false
namespace Mine
theorem fillAB : (fun (_ : Params → Frag) (_ : OpenLaw) => True) K rw1 := by k_fill; trivial
section
variable {prog : Program} {w : World} {A₀ A : Around} {E : Value → Shared → Prop} {s : Shared} {base h₀ : Heap} {outer : List Env} {L : Addr} {m : Str → Option Value} {env : Env} {news : List (Addr × Obj)}
theorem code_defGx {K : Frag} {p : Program} {loose : List Str} {mean : ExcName → Option Value} {mg mb : Str → Option Value} {R : Result → Shared → Prop} {name qual : Str} {params : Arguments} {body : List Stmt} {scope : Scope} {dV kV doc pm cdv ct oc : Value} {an od : Option Addr} {osl : Array (Option Value)} {f : Addr} {args : Args} {binds : List (Str × Value)}
    (B : Below A₀ base outer h₀) (F : Fr h₀ L s.heap m) (X₀ : K.In h₀) (N : News h₀ L s.heap news) (T : Top p loose mean mg mb h₀) (hA : A.frames = some (env :: outer)) (hf : env.frame = some L) (hke : env.scope.kind = .function)
    (ho : K.lookup f = some ⟨oc, od, .func (fnOf name qual params body scope dV kV doc pm an cdv ct), osl⟩) (hcd : codeIn K cdv qual = true) (hroom : A.depth < recursionLimit)
    (hbind : BindsTo s (fnOf name qual params body scope dV kV doc pm an cdv ct) args binds) (hloc : ∀ y ∈ binds, scope.names.lookup y.1 = some .local)
    (h : ∀ g L' h₁, Fr h₀ L g m → Fr g L' h₁ (fun y => binds.reverse.lookup y) → News g L' h₁ news → Below A base (env :: outer) g → K.In g → Top p loose mean mg mb g →
      wpG (model prog w) (A.deeper (envOf qual scope L' f cdv)) (execs body (envOf qual scope L' f cdv))
        (fun fl s' => LeaveK h₀ L m g R (match fl with | .ret v => v | _ => .none) s')
        (fun e s' => wpAny (model prog w) (A.deeper (envOf qual scope L' f cdv)) (leaving (envOf qual scope L' f cdv) e) (fun _ s'' => R (.error e) s'') (fun e' s'' => R (.error e') s'') s')
        { s with heap := h₁, toks := s.toks + binds.length })
    (hco : scope.isCoroutine = false) (hgen : scope.isGenerator = false) (hk : scope.kind = .function)
    (hcell : ∀ x ∈ scope.names, x.2 ≠ .cell) : codeG (model prog w) A (.call (.ref f) args) R s := by
  obtain ⟨FG, BG, st, lv⟩ := groundX (R := R) B F N hA hf hke
  refine codeG_call_def (fd := fnOf name qual params body scope dV kV doc pm an cdv ct) (body := body) (binds := binds) hroom ((X₀.keeps F.keep) _ _ ho) rfl (T.nolimit.keeps F.keep) (codeRec_of (X₀.keeps F.keep) hcd) rfl hbind hcell hloc (fun h₁ hns hk₁ => ?_) hco hgen hk
  exact wpG_mono (h _ s.heap.objs.size h₁ FG ⟨hns, fun b o e => hk₁ b o (of_hideAll _ e), Nat.le_of_eq (hideAll_size _ _)⟩
    (fun p hp => ⟨hk₁ _ _ (N p hp).1, Nat.ne_of_lt (Heap.lt_size (N p hp).1), hideAll_none _ (List.mem_map_of_mem hp)⟩) BG (X₀.keeps st) (T.keeps st)) (fun fl s' hl => lv _ _ hl) fun _ _ y => y
theorem wpG_callWith_T {M : Model} {pos : Pos} {T : String} {Q : Value → Shared → Prop} {e : PySem.Expr} {rest : List PySem.Expr}
    (h : wpG M A (spliced (backTo pos (starEach (e :: rest) env))) (fun vs s₁ => wpG M A (call (.type T) vs) Q E s₁) E s)
    (he : starEach (e :: rest) env = (false, eval e env) :: starEach rest env := by rfl) (hplain : (backTo pos (starEach rest env)).any (·.1) = false := by rfl) :
    wpG M A (callWith pos (.type T) [] (backTo pos (starEach (e :: rest) env)) []) Q E s := by
  rw [he] at h ⊢
  refine wpG_callWith (P := fun _ => True) (by show ((false || (backTo pos (starEach rest env)).any (·.1)) || false) = false; rw [hplain]; rfl) (fun h _ => ⟨_, .inr (.inl rfl), Looks.of_pure rfl⟩) (wpG_evalArgs (wpG_mono h (fun vs s' x => ⟨True.intro, x⟩) fun _ _ x => x))
end
end Mine
end
section
open Lean Meta Elab PySem PySem.W PyProof.Rows
set_option maxRecDepth 100000
set_option maxHeartbeats 0
set_option Elab.async false
set_option linter.unusedVariables false
namespace Mine
theorem fillAC : (fun (_ : Params → Frag) (_ : OpenLaw) => True) K rw1 := by k_fill; trivial
noncomputable def bsP0 : Stmt := litOf (stm f_byteswap_b 0) (by conv => rhs; whnf)
noncomputable def bsP2 : Stmt := litOf (stm f_byteswap_b 2) (by conv => rhs; whnf)
theorem bs_body : f_byteswap_b = [bsP0, bsF, bsP2] := by with_unfolding_all rfl
noncomputable def bsE0 : PySem.Expr := litOf (match bsP0 with | .Assign _ v _ => v | _ => .Constant .none 0 default) (by conv => rhs; whnf)
theorem call_baN {prog : Program} {w : World} {A : Around} {E : Value → Shared → Prop} {s : Shared} {h₀ : Heap} {L : Addr} {m : Str → Option Value} {news : List (Addr × Obj)} {l : List Nat} {t : Tok} {Q : Value → Shared → Prop} (hn : l.length ≤ 1000) (F : Fr h₀ L s.heap m) (N : News h₀ L s.heap news)
    (h : ∀ (S : Nat) h' k, Fr h₀ L h' m → News h₀ L h' ((S, baObj (bytesOf (List.replicate l.length 0))) :: news) → (∀ p ∈ news, p.1 < S) → Q (.ref S) { s with heap := h', toks := k }) :
    wpG (model prog w) A (call (.type "bytearray") [.int ((bytesOf l).size : Nat) t]) Q E s := by
  refine call_ba (by rw [bytesOf_size]; exact hn) fun h' k hg hs => ?_
  have e : Array.replicate (bytesOf l).size (0 : UInt8) = bytesOf (List.replicate l.length 0) := by
    apply Array.toList_inj.mp
    rw [bytesOf_size]
    simp
  rw [e] at hg
  exact h _ h' k (F.filled hs) (News.filled F N hs hg) fun p hp => Heap.lt_size (N p hp).1
section
variable {w : World} {mean : ExcName → Option Value} {mg mb : Str → Option Value} {dp un : Nat} {gd : Option (List Code)} {outer : List Env} {A₀ : Around} {base h₀ : Heap} {L : Addr} {m : Str → Option Value} {news : List (Addr × Obj)} {s : Shared} {Q : Flow → Shared → Prop} {E : Value → Shared → Prop}
def CallW (K : Frag) (f : Value) (vs : List Value) (h₀ : Heap) (L : Addr) (m : Str → Option Value) (news : List (Addr × Obj)) (s : Shared) (vs' : List Value) (s₁ : Shared) : Prop := vs' = vs ∧ ∃ h tk, s₁ = { s with heap := h, toks := tk } ∧ Fr h₀ L h m ∧ News h₀ L h news
theorem ba_P0 {l : List Nat} {tb : Tok} (hz : l.length ≤ 1000)
    (B : Below A₀ base outer h₀) (F : Fr h₀ L s.heap m) (X : (K w.params).In h₀) (N : News h₀ L s.heap news) (T : Top q loose mean mg mb h₀)
    (m2 : m "data" = some (.bytes (bytesOf l) tb))
    (hret : ∀ (S : Nat) h' tk', (∀ p ∈ news, p.1 < S) → Fr h₀ L h' (fun y => if y = ("swapped_data" : Str) then some (.ref S) else m y) → News h₀ L h' ((S, baObj (bytesOf (List.replicate l.length 0))) :: news) → Q .next { s with heap := h', toks := tk' }) :
    wpG (model pw w) (ktrTop dp un gd "_byteswap" f_byteswap_s L 750 (.ref 749) [] outer) (exec bsP0 (envOf "_byteswap" f_byteswap_s L 750 (.ref 749))) Q E s := by
  have e0 : (fun (y : Str) => if y = ("data" : Str) then some (.bytes (bytesOf l) tb) else m y) = m := by
    funext y
    split
    · rename_i h; rw [h, m2]
    · rfl
  have hsz : (bytesOf l).size ≤ 1000 := by rw [bytesOf_size]; exact hz
  have F0 : Fr h₀ L s.heap (fun y => if y = ("data" : Str) then some (.bytes (bytesOf l) tb) else m y) := by
    rw [e0]; exact F
  show wpG _ _ (exec (.Assign [.Name "swapped_data" _] (.Call (.Name "bytearray" _) _ [] _) _) _) _ _ _
  refine wpG_Assign_Name (wpG_Call ?_)
  have hret' : ∀ (S : Nat) h' tk', (∀ p ∈ news, p.1 < S) → Fr h₀ L h' (fun y => if y = ("swapped_data" : Str) then some (.ref S) else (fun (y : Str) => if y = ("data" : Str) then some (.bytes (bytesOf l) tb) else m y) y) → News h₀ L h' ((S, baObj (bytesOf (List.replicate l.length 0))) :: news) → Q .next { s with heap := h', toks := tk' } := by
    rw [e0]; exact hret
  clear F e0 hret
  k_steps
  refine wpG_callWith_T (wpG.of ?_)
  k_steps
  all_goals (refine call_baN hz (by k_asm) (by k_asm) ?_; intro S9 h9 k9 F9 N9 l9; dsimp only)
  all_goals k_steps
  all_goals exact hret' _ _ _ (by assumption) (by k_asm) (by k_asm)
end
local macro_rules | `(tactic| walk_at "exec") => `(tactic| (k_here; k_dflt (refine' bs_outer ?r0 ?rz ?rw ?rv ?rR ?ro ?rB ?rF ?rX ?rN ?rT ?m1 ?m2 ?m3 ?rd ?ru ?_ ?rE; (case r0 => assumption); (case rz => assumption); (case rw => assumption); (case rv => assumption); (case rR => assumption); (case rB => k_asm); (case rF => k_asm); (case rX => k_asm); trace "X"; (case rN => k_asm); trace "N"; (case rT => k_asm); (case ro => assumption); trace "o"; (case m1 => exact rfl); (case m2 => exact rfl); (case m3 => exact rfl); trace "m"; (case rd => ktr_room); (case ru => ktr_units); (case rE => passes_own); k_whole); intro m9 h9 tk9 F9 N9; (try dsimp only)))
theorem bytesN {prog : Program} {w : World} {A : Around} {E : Value → Shared → Prop} {s : Shared} {h₀ : Heap} {L : Addr} {S : Nat} {news : List (Addr × Obj)} {l : List Nat} {Q : Value → Shared → Prop} (N : News h₀ L s.heap ((S, baObj (bytesOf l)) :: news)) (hz : l.length ≤ 1000) (h : ∀ t k, Q (.bytes (bytesOf l) t) { s with toks := k }) :
    wpAny (model prog w) A (call (.type "bytes") [.ref S]) Q E s := bytes_of_ba (N _ List.mem_cons_self).1 (by rw [bytesOf_size]; exact hz) h
local macro_rules | `(tactic| walk_at "call type:bytes") => `(tactic| (k_here; k_dflt (refine' bytesN ?rN ?rz ?_; (case rN => k_asm); (case rz => first | assumption | (rw [swp_len]; assumption)); k_whole); intro t9 k9; (try dsimp only)))
section
variable {w : World} {mean : ExcName → Option Value} {mg mb : Str → Option Value} {dp un : Nat} {gd : Option (List Code)} {cn : Str} {cs : Scope} {a : Addr} {ccd : Value} {cl : List (Str × Addr)} {outer : List Env} {A₀ : Around} {base h₀ : Heap} {L : Addr} {m : Str → Option Value} {news : List (Addr × Obj)} {s : Shared} {Q E : Value → Shared → Prop}
theorem bswap_c {l : List Nat} {wd R : Nat} {tb tw : Tok} (hl : ∀ c ∈ l, c < 256) (hz : l.length ≤ 1000) (hw : 0 < wd) (hw2 : wd ≤ 1000) (hR : l.length = R * wd)
    (B : Below A₀ base outer h₀) (F : Fr h₀ L s.heap m) (X : (K w.params).In h₀) (N : News h₀ L s.heap news) (T : Top q loose mean mg mb h₀) (hk : cs.kind = .function)
    (hd : dp + 10 < recursionLimit) (hu : un + 80 < cLine)
    (hret : ∀ t h' tk', Fr h₀ L h' m → News h₀ L h' news → Q (.bytes (bytesOf (swp l wd)) t) { s with heap := h', toks := tk' }) :
    wpG (model pw w) (ktrTop dp un gd cn cs L a ccd cl outer) (call (.ref 750) [.bytes (bytesOf l) tb, .int (wd : Nat) tw]) Q E s := by
  refine wpG_call ?_
  refine' code_defGx B F X N T rfl rfl hk ?k6 ?k7 ?k8 ?k9 ?kB ?_ ?c2 ?c3 ?c4 ?c5
  case k6 => k_is
  case k7 => k_is
  case k8 => ktr_room
  case k9 => exact BindsTo.of_eq rfl
  case c5 => decide
  case kB => exact locs rfl
  case c2 => exact rfl
  case c3 => exact rfl
  case c4 => exact rfl
  intro g' L' h' FG' F' N' B' X' T'
  dsimp only
  rw [bs_body]
  refine wpG_execs_cons ?_
  refine ba_P0 hz B' F' X' N' T' rfl ?_
  intro S h1 tk1 lS F1 N1
  rw [← stL_0 l wd hw] at N1
  have ho : ∀ p ∈ news, p.1 ≠ S := fun p hp => Nat.ne_of_lt (lS p hp)
  refine wpG.of ?_
  unfold bsP2
  k_steps
  all_goals exact hret _ _ _ (by k_asm) (news_tail (by k_asm))
end
end Mine
end
section
open Lean Meta Elab PySem PySem.W PyProof.Rows
set_option maxRecDepth 100000
set_option maxHeartbeats 0
set_option Elab.async false
set_option linter.unusedVariables false
namespace Mine
theorem fillAD : (fun (_ : Params → Frag) (_ : OpenLaw) => True) K rw1 := by k_fill; trivial
def sgnC (n : Int) : Nat := if n.fmod 8 < 7 then [39, 34, 32, 10, 9, 35, 97].getD (n.fmod 8).toNat 0 else if ((n.fdiv 8).fmod 256).toNat = 92 then 98 else ((n.fdiv 8).fmod 256).toNat
theorem sgn_item {n : Int} (h : n.fmod 8 < 7) : Txt.item (Str.ofString "'\" \n\t#a") (n.fmod 8) = ⟨#[sgnC n]⟩ := by
  unfold sgnC
  rw [if_pos h]
  have h0 : 0 ≤ n.fmod 8 := Int.fmod_nonneg_of_pos _ (by decide)
  generalize n.fmod 8 = k at *
  have : k = 0 ∨ k = 1 ∨ k = 2 ∨ k = 3 ∨ k = 4 ∨ k = 5 ∨ k = 6 := by omega
  rcases this with rfl | rfl | rfl | rfl | rfl | rfl | rfl <;> decide +kernel
theorem sgn_chr {n : Int} (h : ¬ n.fmod 8 < 7) (h2 : ((⟨#[((n.fdiv 8).fmod 256).toNat]⟩ : Str) != Str.ofString "\\") = true) : (⟨#[((n.fdiv 8).fmod 256).toNat]⟩ : Str) = ⟨#[sgnC n]⟩ := by
  unfold sgnC
  rw [if_neg h]
  have e : Str.ofString "\\" = ⟨#[92]⟩ := by decide +kernel
  rw [e] at h2
  rw [if_neg]
  intro q
  rw [q] at h2
  revert h2
  decide
theorem sgn_b {n : Int} (h : ¬ n.fmod 8 < 7) (h2 : ((⟨#[((n.fdiv 8).fmod 256).toNat]⟩ : Str) != Str.ofString "\\") = false) : Str.ofString "b" = ⟨#[sgnC n]⟩ := by
  unfold sgnC
  rw [if_neg h]
  have e : Str.ofString "\\" = ⟨#[92]⟩ := by decide +kernel
  rw [e] at h2
  have : ((n.fdiv 8).fmod 256).toNat = 92 := by simpa using h2
  rw [if_pos this]
  decide +kernel
theorem sgn_lt (n : Int) : sgnC n < 256 := by
  unfold sgnC
  split
  · rename_i h
    have h0 : 0 ≤ n.fmod 8 := Int.fmod_nonneg_of_pos _ (by decide)
    generalize n.fmod 8 = k at *
    have : k = 0 ∨ k = 1 ∨ k = 2 ∨ k = 3 ∨ k = 4 ∨ k = 5 ∨ k = 6 := by omega
    rcases this with rfl | rfl | rfl | rfl | rfl | rfl | rfl <;> decide
  · split
    · omega
    · have := Int.fmod_lt_of_pos (n.fdiv 8) (show (0 : Int) < 256 by decide)
      omega
theorem sgn_bs (n : Int) : sgnC n ≠ 92 := by
  unfold sgnC
  split
  · rename_i h
    have h0 : 0 ≤ n.fmod 8 := Int.fmod_nonneg_of_pos _ (by decide)
    generalize n.fmod 8 = k at *
    have : k = 0 ∨ k = 1 ∨ k = 2 ∨ k = 3 ∨ k = 4 ∨ k = 5 ∨ k = 6 := by omega
    rcases this with rfl | rfl | rfl | rfl | rfl | rfl | rfl <;> decide
  · split
    · omega
    · assumption
section
variable {w : World} {mean : ExcName → Option Value} {mg mb : Str → Option Value} {dp un : Nat} {gd : Option (List Code)} {cn : Str} {cs : Scope} {a : Addr} {ccd : Value} {cl : List (Str × Addr)} {outer : List Env} {A₀ : Around} {base h₀ : Heap} {L : Addr} {m : Str → Option Value} {news : List (Addr × Obj)} {s : Shared} {Q E : Value → Shared → Prop}
theorem sign_c {n : Int} {t : Tok} 
    (B : Below A₀ base outer h₀) (F : Fr h₀ L s.heap m) (X : (K w.params).In h₀) (N : News h₀ L s.heap news) (T : Top q loose mean mg mb h₀) (hk : cs.kind = .function)
    (hd : dp + 2 < recursionLimit) (hu : un + 20 < cLine)
    (hret : ∀ t' h' tk', Fr h₀ L h' m → News h₀ L h' news → Q (.str ⟨#[sgnC n]⟩ t') { s with heap := h', toks := tk' }) :
    wpAny (model pw w) (ktrTop dp un gd cn cs L a ccd cl outer) (call (.ref 757) [.int n t]) Q E s := by
  refine wpAny_call ?_
  k_dflt (walk_at "c_enter")
  k_steps
  · rw [sgn_item (by assumption)]
    exact hret _ _ _ (by k_asm) (by k_asm)
  · rw [sgn_chr (by assumption) (by assumption)]
    exact hret _ _ _ (by k_asm) (by k_asm)
  · rw [sgn_b (by assumption) (by assumption)]
    exact hret _ _ _ (by k_asm) (by k_asm)
end
end Mine
end
section
open Lean Meta Elab PySem PySem.W PyProof.Rows PySem.Spec PySem.Calls
set_option maxRecDepth 100000
set_option maxHeartbeats 0
set_option Elab.async false
set_option linter.unusedVariables false
namespace Mine
/-- a source of a comprehension: an iterator that stands new behind the ledger -/
def CompAt (prog : Program) (w : World) (A : Around) (h₀ : Heap) (L : Addr) (m : Str → Option Value) (env : Env) (elt : PySem.Expr) (x : Str) (scope : Scope) (cl : List (Str × Addr)) (Fin : Shared → List Value → List (Addr × Obj) → Prop) (it : Value) (s₂ : Shared) : Prop :=
  ∃ (I : Addr) (n : Nat) (P : Nat → Value → Prop) (St : Nat → Heap → Prop) (news : List (Addr × Obj)), it = .ref I ∧ Walks prog w A I [I] [I] n P St ∧ n ≤ sizeLine ∧ (∀ i h, St i h → ∃ o, h.get? I = some o) ∧
    (∀ i h h' o, St i h → h.get? I = some o → h'.get? I = some o → St i h') ∧ St 0 s₂.heap ∧ I < s₂.heap.objs.size ∧ Fr h₀ L s₂.heap m ∧ News h₀ L s₂.heap news ∧ L ≠ I ∧ h₀.get? I = none ∧ (∀ p ∈ news, p.1 ≠ I) ∧
    LCg.CompRest prog w A h₀ L m env elt x scope cl s₂ (fun _ => True) P (Fin s₂) n 0 [] news
section
variable {prog : Program} {w : World} {A : Around} {E : Value → Shared → Prop} {s : Shared} {h₀ : Heap} {L : Addr} {m : Str → Option Value} {env : Env}
theorem ListComp_W {elt iter : PySem.Expr} {x : Str} {px : Pos} {scope : Scope} {cl : List (Str × Addr)} {pos : Pos} {Q : Value → Shared → Prop} (F₀ : Fr h₀ L s.heap m)
    (hclos : closureFor scope env = pure cl) (hcell : ∀ y ∈ scope.names, y.2 ≠ .cell) (hkind : scope.kind = .function)
    (hnames : ∀ y ∈ scope.names, y.2 = .local → scope.names.lookup y.1 = some .local) (hx : scope.names.lookup x = some .local)
    (h : wpAny (model prog w) A (eval iter env) (fun xv s₁ => wpAny (model prog w) A (pyIter xv) (CompAt prog w A h₀ L m env elt x scope cl (fun s₂ => LCg.FinE h₀ L m s₂ Q)) E s₁) E s)
    (hs : ∀ x, foldedSetIterable iter env x = pure x := by intro _; rfl) :
    wpAny (model prog w) A (eval (.ListComp elt [⟨.Name x px, iter, [], 0⟩] scope pos) env) Q E s := by
  rw [eval_ListComp]
  refine wpAny_comprehension_free (use := none) rfl hs hclos hkind hnames (wpAny_mono h (fun xv s₁ h₁ => ?_) fun _ _ e => e)
  refine wpAny_mono h₁ (fun it s₂ h₂ => ?_) fun _ _ e => e
  obtain ⟨I, n, P, St, news, rfl, W, hsz, hIo, hSt, hst, hI, F, N, hLI, hI0, off, R⟩ := h₂
  refine LCg.block_U W hsz hIo (fun i h h' o nw a b c _ _ _ => hSt i h h' o a b c) hcell hkind hx hst (fun b hb => by rw [List.mem_singleton.mp hb]; exact hI) F N hLI hI0 off True.intro R ?_
  intro D C h tk m' ys news' F' N' o1 hn hC₀ hD₀ hCL hDL hCD offC fin
  refine ⟨m', hn, fun h'' hs'' => fin D h'' tk (F'.change hs'' hCL hC₀) (fun p hp => ?_) o1⟩
  refine ⟨hs''.extBut _ _ ?_ (N' p hp).1, (N' p hp).2⟩
  rcases List.mem_cons.mp hp with rfl | hp
  · exact Ne.symm hCD
  · exact offC p hp
theorem rest_gen {elt : PySem.Expr} {x : Str} {scope : Scope} {cl : List (Str × Addr)} {S : List (Addr × Obj) → Prop} {P : Nat → Value → Prop} {Fin : List Value → List (Addr × Obj) → Prop} {news : List (Addr × Obj)} {n : Nat} (R : Nat → List Value → Prop) (h0 : R 0 [])
    (turn : ∀ i v I oI C oC D m₂ ys h tk (E' : Value → Shared → Prop), i < n → P i v → R i ys → LCg.NsObj oC m₂ → m₂ x = some v → Fr h₀ L h m → News h₀ L h ((I, oI) :: (C, oC) :: (D, LCg.lst ys) :: news) → LCg.Off3 I C D news → ((@Ne Nat I C) ∧ (@Ne Nat I D) ∧ (@Ne Nat C D)) →
      wpAny (model prog w) A (eval elt (compEnvC scope cl C env)) (LCg.CompEnd h₀ L m { s with heap := h, toks := tk } I oI C oC D (LCg.lst ys) S (fun y news' => news' = news ∧ R (i + 1) (ys ++ [y]))) E' { s with heap := h, toks := tk })
    (fin : ∀ ys, R n ys → Fin ys news) : LCg.CompRest prog w A h₀ L m env elt x scope cl s S P Fin n 0 [] news := by
  have key : ∀ (k i : Nat) (ys : List Value), i + k = n → R i ys → LCg.CompRest prog w A h₀ L m env elt x scope cl s S P Fin k i ys news := by
    intro k
    induction k with
    | zero =>
      intro i ys e r
      obtain rfl : i = n := by omega
      exact LCg.CompRest.zero (fin ys r)
    | succ k ih =>
      intro i ys e r
      refine LCg.CompRest.succ ?_
      intro v I oI C oC D m₂ h tk E' hv hC hx F N off ne
      refine wpAny_mono (turn i v I oI C oC D m₂ ys h tk E' (by omega) hv r hC hx F N off ne) (fun y s₂ hq => ?_) fun _ _ e => e
      obtain ⟨h', tk', nw, e', F', N', off', hS, hn, hr⟩ := hq
      subst hn
      exact ⟨h', tk', nw, e', F', N', off', hS, ih (i + 1) _ (by omega) hr⟩
  exact key n 0 [] (by omega) h0
/-- a str as a source -/
theorem str_src {elt : PySem.Expr} {x : Str} {scope : Scope} {cl : List (Str × Addr)} {Fin : Shared → List Value → List (Addr × Obj) → Prop} {y : Str} {t : Tok} {news : List (Addr × Obj)} (hh : A.handled = none) (hz : y.cps.size ≤ sizeLine) (F : Fr h₀ L s.heap m) (N : News h₀ L s.heap news)
    (h : ∀ g, LCg.CompRest prog w A h₀ L m env elt x scope cl { s with heap := g } (fun _ => True) (SignAt y) (Fin { s with heap := g }) y.cps.size 0 [] news) :
    wpAny (model prog w) A (pyIter (.str y t)) (CompAt prog w A h₀ L m env elt x scope cl Fin) E s := by
  cases ha : y.cps.all (· < 128)
  · refine wpAny_pyIter_wide ha ⟨_, _, _, _, news, rfl, Walks.strWide hh _ y t, hz, fun i h st => let ⟨o, e, _⟩ := st; ⟨o, e⟩, fun i h h' o st e e' => let ⟨o', e1, r⟩ := st; ⟨o', (by rw [e1] at e; rw [e']; exact e.symm), r⟩, ⟨_, Heap.get?_push_size _ rfl, rfl, rfl⟩, ?_, F.push _, (fun p hp => ⟨Heap.get?_push_of_some _ (N p hp).1, (N p hp).2⟩), Nat.ne_of_lt F.ns.lt, next_is_new F, fun p hp => Nat.ne_of_lt (Heap.lt_size (N p hp).1), h _⟩
    rw [Heap.size_push]; exact Nat.lt_succ_self _
  · refine wpAny_pyIter_ascii ha ⟨_, _, _, _, news, rfl, Walks.strAscii hh _ y t, hz, fun i h st => let ⟨o, e, _⟩ := st; ⟨o, e⟩, fun i h h' o st e e' => let ⟨o', e1, r⟩ := st; ⟨o', (by rw [e1] at e; rw [e']; exact e.symm), r⟩, ⟨_, Heap.get?_push_size _ rfl, rfl, rfl⟩, ?_, F.push _, (fun p hp => ⟨Heap.get?_push_of_some _ (N p hp).1, (N p hp).2⟩), Nat.ne_of_lt F.ns.lt, next_is_new F, fun p hp => Nat.ne_of_lt (Heap.lt_size (N p hp).1), h _⟩
    rw [Heap.size_push]; exact Nat.lt_succ_self _
/-- bytes as a source -/
theorem bytes_src {elt : PySem.Expr} {x : Str} {scope : Scope} {cl : List (Str × Addr)} {Fin : Shared → List Value → List (Addr × Obj) → Prop} {b : Array UInt8} {t : Tok} {news : List (Addr × Obj)} (hh : A.handled = none) (hz : b.size ≤ sizeLine) (F : Fr h₀ L s.heap m) (N : News h₀ L s.heap news)
    (h : ∀ g, LCg.CompRest prog w A h₀ L m env elt x scope cl { s with heap := g } (fun _ => True) (fun i v => ∃ c u, b[i]? = some c ∧ v = .int (c.toNat : Int) u) (Fin { s with heap := g }) b.size 0 [] news) :
    wpAny (model prog w) A (pyIter (.bytes b t)) (CompAt prog w A h₀ L m env elt x scope cl Fin) E s := by
  refine KBw.pyIter_bytes ⟨_, _, _, _, news, rfl, KBw.walks hh _ b t, hz, fun i h st => let ⟨o, e, _⟩ := st; ⟨o, e⟩, fun i h h' o st e e' => let ⟨o', e1, r⟩ := st; ⟨o', (by rw [e1] at e; rw [e']; exact e.symm), r⟩, ⟨_, Heap.get?_push_size _ rfl, rfl, rfl⟩, ?_, F.push _, (fun p hp => ⟨Heap.get?_push_of_some _ (N p hp).1, (N p hp).2⟩), Nat.ne_of_lt F.ns.lt, next_is_new F, fun p hp => Nat.ne_of_lt (Heap.lt_size (N p hp).1), h _⟩
  rw [Heap.size_push]; exact Nat.lt_succ_self _
end
end Mine
end
section
open Lean Meta Elab PySem PySem.W PyProof.Rows
set_option maxRecDepth 100000
set_option maxHeartbeats 0
set_option Elab.async false
set_option linter.unusedVariables false
namespace Mine
theorem fillAE : (fun (_ : Params → Frag) (_ : OpenLaw) => True) K rw1 := by k_fill; trivial
theorem snoc' (c : Nat) (l : List Nat) : (⟨#[c]⟩ : Str) ++ ⟨([] : List Nat).toArray⟩ ++ ⟨l.toArray⟩ = ⟨(c :: l).toArray⟩ := by
  have e : (⟨#[c]⟩ : Str) ++ ⟨([] : List Nat).toArray⟩ = ⟨#[c]⟩ := by show Str.mk _ = _; simp
  rw [e]
  show Str.mk _ = _
  simp
theorem join_ones' : ∀ (l : List Nat), Str.join (Str.ofString "") (l.map fun c => (⟨#[c]⟩ : Str)) = ⟨l.toArray⟩
  | [] => by decide +kernel
  | [c] => rfl
  | c :: d :: r => by
    have ih := join_ones' (d :: r)
    show (⟨#[c]⟩ : Str) ++ Str.ofString "" ++ Str.join (Str.ofString "") ((d :: r).map fun c => (⟨#[c]⟩ : Str)) = _
    rw [ih, ← nilE]
    rw [snoc' ]
theorem join_chars {prog : Program} {w : World} {A : Around} {E : Value → Shared → Prop} {s : Shared} {h₀ : Heap} {L : Addr} {D : Addr} {ys : List Value} {codes : List Nat} {t : Tok} {news : List (Addr × Obj)} {Q : Value → Shared → Prop}
    (N : News h₀ L s.heap news) (hm : (D, LCg.lst ys) ∈ news) (hs : StrsAre ys (codes.map fun c => (⟨#[c]⟩ : Str))) (hn : codes.length ≤ 1000)
    (h : ∀ t' k, Q (.str ⟨codes.toArray⟩ t') { s with toks := k }) : wpAny (model prog w) A (call (.builtin "str.join") [.str (Str.ofString "") t, .ref D]) Q E s := by
  have hl : s.heap.IsList D ys.toArray := ⟨_, (N _ hm).1, rfl, _, rfl⟩
  have hc := hs.carried
  rw [List.map_map] at hc
  refine KT.join_1 (l := codes) (g := fun c => (⟨#[c]⟩ : Str)) hl hc (fun _ _ => rfl) (by omega) fun t' k _ => ?_
  have e : Txt.join (Str.ofString "") (codes.map fun c => (⟨#[c]⟩ : Str)) = ⟨codes.toArray⟩ := by
    rw [← join_ones']
    exact StrLaws.glued_eq_join _ _
  rw [e]
  exact h t' k
theorem byteArr_of (codes : List Nat) : byteArr (codes.map fun c : Nat => (c : Int)) = bytesOf codes := by
  unfold byteArr bytesOf
  rw [List.map_map]
  rfl
theorem bytes_made {prog : Program} {w : World} {A : Around} {E : Value → Shared → Prop} {s : Shared} {h₀ : Heap} {L : Addr} {D : Addr} {ys : List Value} {codes : List Nat} {m : Str → Option Value} {news : List (Addr × Obj)} {Q : Value → Shared → Prop} (hh : A.handled = none)
    (F : Fr h₀ L s.heap m) (N : News h₀ L s.heap news) (hm : (D, LCg.lst ys) ∈ news) (hs : IntsAre ys (codes.map fun c : Nat => (c : Int))) (hc : ∀ c ∈ codes, c < 256) (hn : codes.length ≤ 1000)
    (h : ∀ h' t k, Fr h₀ L h' m → News h₀ L h' news → Q (.bytes (bytesOf codes) t) { s with heap := h', toks := k }) : wpAny (model prog w) A (call (.type "bytes") [.ref D]) Q E s := by
  have hl : s.heap.IsList D ys.toArray := ⟨_, (N _ hm).1, rfl, _, rfl⟩
  have hlen := hs.length
  rw [List.length_map] at hlen
  refine call_bytes_ints hl hs (fun n hn => ?_) (by rw [sizeLine_eq]; omega) hh fun h' t k hk => ?_
  · obtain ⟨c, h1, rfl⟩ := List.mem_map.mp hn
    have := hc c h1
    omega
  · rw [byteArr_of]
    exact h h' t k (F.keeps hk) (N.grown hk)
end Mine
end
section
open Lean Meta Elab PySem PySem.W PyProof.Rows
set_option maxRecDepth 100000
set_option maxHeartbeats 0
set_option Elab.async false
set_option linter.unusedVariables false
namespace Mine
theorem fillAF : (fun (_ : Params → Frag) (_ : OpenLaw) => True) K rw1 := by k_fill; trivial
noncomputable def lmP0 : Stmt := litOf (stm f_law_mirror_b 0) (by conv => rhs; whnf)
noncomputable def lmP1 : Stmt := litOf (stm f_law_mirror_b 1) (by conv => rhs; whnf)
theorem lm_body : f_law_mirror_b = [lmP0, lmP1] := by with_unfolding_all rfl
theorem ints_snoc {vs : List Value} {l : List Int} {k : Int} {t : Tok} (h : IntsAre vs l) : IntsAre (vs ++ [.int k t]) (l ++ [k]) := by
  induction h with
  | nil => exact .cons k t .nil
  | cons a u r ih => exact .cons a u ih
local macro_rules | `(tactic| walk_at "eval ListComp") => `(tactic| (k_here; k_dflt (refine ListComp_W (F₀ := by k_asm) (by rfl) (by decide) (by rfl) (by decide) (by rfl) ?_)))
noncomputable def lmL1 : PySem.Expr := litOf (match lmP0 with | .Assign _ (.Call _ (.Call _ (l :: _) _ _ :: _) _ _) _ => l | _ => .Constant .none 0 default) (by conv => rhs; whnf)
noncomputable def lmE1 : PySem.Expr := litOf (match lmL1 with | .ListComp e _ _ _ => e | _ => .Constant .none 0 default) (by conv => rhs; whnf)
noncomputable def lmS1 : Scope := litOf (match lmL1 with | .ListComp _ _ sc _ => sc | _ => default) (by conv => rhs; whnf)
noncomputable def lmL2 : PySem.Expr := litOf (match lmP1 with | .Return (some (.Call _ (l :: _) _ _)) _ => l | _ => .Constant .none 0 default) (by conv => rhs; whnf)
noncomputable def lmE2 : PySem.Expr := litOf (match lmL2 with | .ListComp e _ _ _ => e | _ => .Constant .none 0 default) (by conv => rhs; whnf)
noncomputable def lmS2 : Scope := litOf (match lmL2 with | .ListComp _ _ sc _ => sc | _ => default) (by conv => rhs; whnf)
section
variable {w : World} {mean : ExcName → Option Value} {mg mb : Str → Option Value} {dp un : Nat} {gd : Option (List Code)} {outer : List Env} {A₀ : Around} {base h₀ : Heap} {L : Addr} {m : Str → Option Value} {news : List (Addr × Obj)} {s : Shared} {E : Value → Shared → Prop}
theorem ord_src {x : Str} {t : Tok} {Fin : Shared → List Value → List (Addr × Obj) → Prop} (hz : x.length ≤ 900)
    (B : Below A₀ base outer h₀) (F : Fr h₀ L s.heap m) (X : (K w.params).In h₀) (N : News h₀ L s.heap news) (T : Top q loose mean mg mb h₀)
    (hfin : ∀ g ys, IntsAre ys (x.cps.toList.map fun c : Nat => (c : Int)) → Fin { s with heap := g } ys news) :
    wpAny (model pw w) (ktrTop dp un gd "_law_mirror" f_law_mirror_s L 762 (.ref 761) [] outer) (pyIter (.str x t)) (CompAt pw w (ktrTop dp un gd "_law_mirror" f_law_mirror_s L 762 (.ref 761) [] outer) h₀ L m (envOf "_law_mirror" f_law_mirror_s L 762 (.ref 761)) lmE1 "sign" lmS1 [] Fin) E s := by
  have hxl : x.cps.size = x.cps.toList.length := by rw [Array.length_toList]
  refine str_src rfl (by show x.length ≤ _; rw [sizeLine_eq]; omega) F N fun g => rest_gen (fun i ys => IntsAre ys ((x.cps.toList.take i).map fun c : Nat => (c : Int))) .nil ?_ ?_
  · intro i v I oI C oC D m₂ ys h tk E' hi hP hR hC hx F' N' off ne
    obtain ⟨c, u, hc, rfl⟩ := chars_of hP
    have hnext : ∀ t', IntsAre (ys ++ [.int (c : Nat) t']) ((x.cps.toList.take (i + 1)).map fun c : Nat => (c : Int)) := by
      intro t'
      rw [List.take_add_one, hc]
      simpa using ints_snoc (k := (c : Int)) (t := t') hR
    unfold lmE1 lmS1
    k_steps
    all_goals exact LCg.CompEnd.intro (by k_asm) N' news (fun p hp => hp) off trivial ⟨rfl, hnext _⟩
  · intro ys hR
    rw [hxl, List.take_length] at hR
    exact hfin _ ys hR
theorem bget {codes : List Nat} {i : Nat} {c : UInt8} (hl : ∀ c ∈ codes, c < 256) (h : (bytesOf codes)[i]? = some c) : codes[i]? = some c.toNat := by
  unfold bytesOf at h
  rw [List.getElem?_toArray, List.getElem?_map] at h
  obtain ⟨d, h1, rfl⟩ := Option.map_eq_some_iff.mp h
  rw [h1, toU_toNat (hl d (List.mem_of_getElem? h1))]
theorem chr_src {codes : List Nat} {t : Tok} {Fin : Shared → List Value → List (Addr × Obj) → Prop} (hl : ∀ c ∈ codes, c < 256) (hz : codes.length ≤ 900)
    (B : Below A₀ base outer h₀) (F : Fr h₀ L s.heap m) (X : (K w.params).In h₀) (N : News h₀ L s.heap news) (T : Top q loose mean mg mb h₀)
    (hfin : ∀ g ys, StrsAre ys (codes.map fun c => (⟨#[c]⟩ : Str)) → Fin { s with heap := g } ys news) :
    wpAny (model pw w) (ktrTop dp un gd "_law_mirror" f_law_mirror_s L 762 (.ref 761) [] outer) (pyIter (.bytes (bytesOf codes) t)) (CompAt pw w (ktrTop dp un gd "_law_mirror" f_law_mirror_s L 762 (.ref 761) [] outer) h₀ L m (envOf "_law_mirror" f_law_mirror_s L 762 (.ref 761)) lmE2 "octet" lmS2 [] Fin) E s := by
  refine bytes_src rfl (by rw [bytesOf_size, sizeLine_eq]; omega) F N fun g => rest_gen (fun i ys => StrsAre ys ((codes.take i).map fun c => (⟨#[c]⟩ : Str))) .nil ?_ ?_
  · intro i v I oI C oC D m₂ ys h tk E' hi hP hR hC hx F' N' off ne
    obtain ⟨c8, u, hc8, rfl⟩ := hP
    have hc := bget hl hc8
    have hlt : c8.toNat < 256 := c8.toNat_lt
    generalize c8.toNat = c at *
    have hnext : ∀ t', StrsAre (ys ++ [.str ⟨#[c]⟩ t']) ((codes.take (i + 1)).map fun c => (⟨#[c]⟩ : Str)) := by
      intro t'
      rw [List.take_add_one, hc]
      simpa using kct_snoc (y := (⟨#[c]⟩ : Str)) (t := t') hR
    unfold lmE2 lmS2
    k_steps
    all_goals (exact LCg.CompEnd.intro (by k_asm) N' news (fun p hp => hp) off trivial ⟨rfl, hnext _⟩)
  · intro ys hR
    rw [bytesOf_size, List.take_length] at hR
    exact hfin _ ys hR
end
end Mine
end
section
open Lean Meta Elab PySem PySem.W PyProof.Rows
set_option maxRecDepth 100000
set_option maxHeartbeats 0
set_option Elab.async false
set_option linter.unusedVariables false
namespace Mine
theorem fillAG : (fun (_ : Params → Frag) (_ : OpenLaw) => True) K rw1 := by k_fill; trivial
local macro_rules | `(tactic| walk_at "eval ListComp") => `(tactic| (k_here; k_dflt (refine ListComp_W (F₀ := by k_asm) (by rfl) (by decide) (by rfl) (by decide) (by rfl) ?_)))
local macro_rules | `(tactic| walk_at "pyIter str") => `(tactic| (k_here; k_dflt (refine' ord_src ?rz ?rB ?rF ?rX ?rN ?rT ?_; (case rz => assumption); (case rB => k_asm); (case rF => k_asm); (case rX => k_asm); (case rN => k_asm); (case rT => k_asm); k_whole); intro g9 ys9 hi9; (try dsimp only)))
local macro_rules | `(tactic| walk_at "pyIter bytes") => `(tactic| (k_here; k_dflt (refine' chr_src ?rl ?rz ?rB ?rF ?rX ?rN ?rT ?_; (case rl => assumption); (case rz => assumption); (case rB => k_asm); (case rF => k_asm); (case rX => k_asm); (case rN => k_asm); (case rT => k_asm); k_whole); intro g9 ys9 hi9; (try dsimp only)))
local macro_rules | `(tactic| walk_at "call type:bytes") => `(tactic| (k_here; k_dflt (refine' bytes_made ?rh ?rF ?rN ?rm ?rs ?rc ?rn ?_; (case rh => rfl); (case rF => k_asm); (case rN => k_asm); (case rm => exact List.mem_cons_self); (case rs => assumption); (case rc => assumption); (case rn => assumption); k_whole); intro h9 t9 k9 F9 N9; (try dsimp only)))
local macro_rules | `(tactic| walk_at "call builtin:str.join") => `(tactic| (k_here; k_dflt (refine' join_chars ?rN ?rm ?rs ?rn ?_; (case rN => k_asm); (case rm => exact List.mem_cons_self); (case rs => assumption); (case rn => assumption); k_whole); intro t9 k9; (try dsimp only)))
section
variable {w : World} {mean : ExcName → Option Value} {mg mb : Str → Option Value} {dp un : Nat} {gd : Option (List Code)} {cn : Str} {cs : Scope} {a : Addr} {ccd : Value} {cl : List (Str × Addr)} {outer : List Env} {A₀ : Around} {base h₀ : Heap} {L : Addr} {m : Str → Option Value} {news : List (Addr × Obj)} {s : Shared} {Q E : Value → Shared → Prop}
theorem mirror_c {x : Str} {t : Tok} (hl : ∀ c ∈ x.cps.toList, c < 256) (hz : x.length ≤ 900) (h0 : 0 < x.length)
    (B : Below A₀ base outer h₀) (F : Fr h₀ L s.heap m) (X : (K w.params).In h₀) (N : News h₀ L s.heap news) (T : Top q loose mean mg mb h₀) (hk : cs.kind = .function)
    (hd : dp + 14 < recursionLimit) (hu : un + 120 < cLine)
    (hret : ∀ t h' tk', Fr h₀ L h' m → News h₀ L h' news → Q (.str ⟨x.cps.toList.reverse.toArray⟩ t) { s with heap := h', toks := tk' }) :
    wpG (model pw w) (ktrTop dp un gd cn cs L a ccd cl outer) (call (.ref 762) [.str x t]) Q E s := by
  have xl : x.cps.toList.length = x.length := by rw [Array.length_toList]; rfl
  have hz2 : x.cps.toList.length ≤ 1000 := by omega
  refine wpG_call ?_
  refine' code_defGx B F X N T rfl rfl hk ?k6 ?k7 ?k8 ?k9 ?kB ?_ ?c2 ?c3 ?c4 ?c5
  case k6 => k_is
  case k7 => k_is
  case k8 => ktr_room
  case k9 => exact BindsTo.of_eq rfl
  case c5 => decide
  case kB => exact locs rfl
  case c2 => exact rfl
  case c3 => exact rfl
  case c4 => exact rfl
  intro g' L' h' FG' F' N' B' X' T'
  dsimp only
  rw [lm_body]
  refine wpG_execs_cons ?_
  show wpG _ _ (exec (.Assign [.Name "octets" _] (.Call (.Name "_byteswap" _) _ [] _) _) _) _ _ _
  refine wpG_Assign_Name (wpG_Call ?_)
  k_steps
  refine wpG_callWith_K (K := K w.params) (by k_is) (wpG.of ?_)
  k_steps
  have hl2 : ∀ c ∈ x.cps.toList.reverse, c < 256 := fun c hc => hl c (List.mem_reverse.mp hc)
  have hz3 : x.cps.toList.reverse.length ≤ 900 := by rw [List.length_reverse]; omega
  have hz4 : x.cps.toList.reverse.length ≤ 1000 := by omega
  refine bswap_c (wd := x.length) (R := 1) hl hz2 h0 (by omega) (by rw [xl, Nat.one_mul]) B' (by k_asm) X' (by k_asm) T' rfl ?rd ?ru ?_
  case rd => ktr_room
  case ru => ktr_units
  intro t5 h5 tk5 F5 N5
  rw [← xl, swp_rev]
  dsimp only
  k_steps
  refine wpG.of ?_
  unfold lmP1
  k_steps
  all_goals (exact hret _ _ _ (by k_asm) (news_tail (news_tail (by k_asm))))
end
end Mine
end
section
open Lean Meta Elab PySem PySem.W PyProof.Rows
set_option maxRecDepth 100000
set_option maxHeartbeats 0
set_option Elab.async false
set_option linter.unusedVariables false
namespace Mine
theorem fillAH : (fun (_ : Params → Frag) (_ : OpenLaw) => True) K rw1 := by k_fill; trivial
theorem eq_strs {prog : Program} {w : World} {A : Around} {E : Value → Shared → Prop} {s : Shared} {a b : Addr} {vs us : List Value} {ss : List Str} {Q : Value → Shared → Prop}
    (ha : s.heap.IsList a vs.toArray) (hb : s.heap.IsList b us.toArray) (h1 : StrsAre vs ss) (h2 : StrsAre us ss) (hu : A.units < cLine) (h : Q (.bool true) s) : wpAny (model prog w) A (compareOp .Eq (.ref a) (.ref b)) Q E s := by
  have l1 : vs.length = ss.length := h1.length
  have l2 : us.length = ss.length := h2.length
  refine PySem.SeqAt.eq_listAt (e := fun _ => true) ha hb (by simp [l1, l2]) hu (fun j j1 j2 => ?_) ?_
  · have key : ∀ (vs us : List Value) (ss : List Str), StrsAre vs ss → StrsAre us ss → ∀ j (h1 : j < vs.length) (h2 : j < us.length), ∃ x t u, vs[j] = .str x t ∧ us[j] = .str x u := by
      intro vs us ss h1
      induction h1 generalizing us with
      | nil => intro _ j h; cases h
      | cons y t r ih =>
        intro h2
        cases h2 with
        | cons _ u r2 =>
          intro j h1 h2
          cases j with
          | zero => exact ⟨y, t, u, rfl, rfl⟩
          | succ j => exact ih _ r2 j (Nat.lt_of_succ_lt_succ h1) (Nat.lt_of_succ_lt_succ h2)
    obtain ⟨x, t, u, e1, e2⟩ := key vs us ss h1 h2 j (by simpa using j1) (by simpa using j2)
    have e1' : vs.toArray[j] = .str x t := by simpa using e1
    have e2' : us.toArray[j] = .str x u := by simpa using e2
    rw [e1', e2']
    have := PySem.SeqAt.EqAt.str_str (A := A.in1) (s := s) x t x u
    rw [beq_self_eq_true] at this
    exact this
  · have : ((List.range vs.toArray.size).all fun _ => true) = true := by simp
    rw [this]; exact h
theorem mark_item {prog : Program} {w : World} {A : Around} {E : Value → Shared → Prop} {s : Shared} {value slice : PySem.Expr} {S : Addr} {t0 t1 t2 u : Tok} {n k : Nat} {news : List (Addr × Obj)} {h₀ : Heap} {L : Addr} {Q : Value → Shared → Prop} (hk : k ≤ 2)
    (N : News h₀ L s.heap news) (hm : (S, lst [.str (Str.ofString "") t0, .str (Str.ofString "'") t1, .str (Str.ofString "\"") t2] n) ∈ news) (h : ∀ t, Q (.str ⟨(mk k).toArray⟩ t) s)
    (hs : subscripted slice false (.ref S) (.int (k : Nat) u) = operate [.ref S, .int (k : Nat) u] (getItem (.ref S) (.int (k : Nat) u))) (hg : ∀ r, letTemporaryGo value (.ref S) r = pure ()) :
    wpAny (model prog w) A (subscriptTail value slice (.ref S) (.int (k : Nat) u)) Q E s := by
  have hl : s.heap.IsList S [Value.str (Str.ofString "") t0, .str (Str.ofString "'") t1, .str (Str.ofString "\"") t2].toArray := ⟨_, (N _ hm).1, rfl, _, rfl⟩
  have : k = 0 ∨ k = 1 ∨ k = 2 := by omega
  rcases this with rfl | rfl | rfl
  · refine item_listL (x := .str (Str.ofString "") t0) hl (by decide) (by decide) rfl ?_ hs hg
    have := h t0
    rwa [show (⟨(mk 0).toArray⟩ : Str) = Str.ofString "" from by decide +kernel] at this
  · refine item_listL (x := .str (Str.ofString "'") t1) hl (by decide) (by decide) rfl ?_ hs hg
    have := h t1
    rwa [show (⟨(mk 1).toArray⟩ : Str) = Str.ofString "'" from by decide +kernel] at this
  · refine item_listL (x := .str (Str.ofString "\"") t2) hl (by decide) (by decide) rfl ?_ hs hg
    have := h t2
    rwa [show (⟨(mk 2).toArray⟩ : Str) = Str.ofString "\"" from by decide +kernel] at this
theorem rev_slice (x : Str) (u : Tok) : Txt.sliceBy x none none (-1, u) = ⟨x.cps.toList.reverse.toArray⟩ := by
  unfold Txt.sliceBy
  rw [if_neg (by simp)]
  show Str.mk _ = Str.mk _
  congr 2
  show (PySem.Builtin.Str.strSliceIndices none none (-1) x.length).filterMap (x.cps[·]?) = _
  rw [picked_rev, krv_range, List.filterMap_reverse]
  congr 1
  exact krv_all x.cps
theorem txts_rev (x : List Nat) : (⟨(⟨x.toArray⟩ : Str).cps.toList.reverse.toArray⟩ : Str) = ⟨x.reverse.toArray⟩ := rfl
noncomputable def lhP0 : Stmt := litOf (stm f_law_holds_b 0) (by conv => rhs; whnf)
noncomputable def lhP1 : Stmt := litOf (stm f_law_holds_b 1) (by conv => rhs; whnf)
noncomputable def lhP2 : Stmt := litOf (stm f_law_holds_b 2) (by conv => rhs; whnf)
noncomputable def lhP3 : Stmt := litOf (stm f_law_holds_b 3) (by conv => rhs; whnf)
noncomputable def lhP4 : Stmt := litOf (stm f_law_holds_b 4) (by conv => rhs; whnf)
noncomputable def lhP5 : Stmt := litOf (stm f_law_holds_b 5) (by conv => rhs; whnf)
theorem lh_body : f_law_holds_b = [lhP0, lhP1, lhP2, lhP3, lhP4, lhP5] := by with_unfolding_all rfl
end Mine
end
section
open Lean Meta Elab PySem PySem.W PyProof.Rows
set_option maxRecDepth 100000
set_option maxHeartbeats 0
set_option Elab.async false
set_option linter.unusedVariables false
namespace Mine
theorem fillAI : (fun (_ : Params → Frag) (_ : OpenLaw) => True) K rw1 := by k_fill; trivial
section
variable {w : World} {mean : ExcName → Option Value} {mg mb : Str → Option Value} {dp un : Nat} {gd : Option (List Code)} {cn : Str} {cs : Scope} {a : Addr} {ccd : Value} {outer : List Env} {A₀ : Around} {base h₀ : Heap} {L : Addr} {m : Str → Option Value} {news : List (Addr × Obj)} {s : Shared} {Q E : Value → Shared → Prop} {x : Str} {t : Tok}
theorem lread_s {ws : List (List Nat)} (e : reads x.cps.toList = some ws)
    (B : Below A₀ base outer h₀) (F : Fr h₀ L s.heap m) (X : (K w.params).In h₀) (N : News h₀ L s.heap news) (T : Top q loose mean mg mb h₀) (hk : cs.kind = .function)
    (G : Gd w.params mean mg mb base) (D : KtsDicts (outer.filterMap (·.frame)) h₀)
    (hbs : ∀ c ∈ x.cps.toList, (Str.ofString "\\").cps.toList.contains c = false) (hsz : x.length ≤ 1000)
    (hd : dp + 12 < recursionLimit) (hu : un + 140 < cLine)
    (hret : ∀ S vs c' h₀' h' tk', StrsAre vs (txts ws) → KtsTurn (outer.filterMap (·.frame)) h₀ h₀' → Below A₀ base outer h₀' → (K w.params).In h₀' → Top q loose mean mg mb h₀' → KtsDicts (outer.filterMap (·.frame)) h₀' → Fr h₀' L h' m → News h₀' L h' ((S, lst vs c') :: news) → Q (.ref S) { s with heap := h', toks := tk' }) :
    wpAny (model pw w) (ktrTop dp un gd cn cs L a ccd [] outer) (call (.ref 783) [.str x t]) Q E s :=
  lread_c B F X N T hk G D hbs hsz hd hu (fun ws' e' => by
    obtain rfl : ws = ws' := by rw [e] at e'; exact Option.some.inj e'
    exact hret) fun e' => by rw [e] at e'; cases e'
theorem lread_n (e : reads x.cps.toList = none)
    (B : Below A₀ base outer h₀) (F : Fr h₀ L s.heap m) (X : (K w.params).In h₀) (N : News h₀ L s.heap news) (T : Top q loose mean mg mb h₀) (hk : cs.kind = .function)
    (G : Gd w.params mean mg mb base) (D : KtsDicts (outer.filterMap (·.frame)) h₀)
    (hbs : ∀ c ∈ x.cps.toList, (Str.ofString "\\").cps.toList.contains c = false) (hsz : x.length ≤ 1000)
    (hd : dp + 12 < recursionLimit) (hu : un + 140 < cLine)
    (hX : ∀ h₀' h' tk', KtsTurn (outer.filterMap (·.frame)) h₀ h₀' → Below A₀ base outer h₀' → (K w.params).In h₀' → Top q loose mean mg mb h₀' → KtsDicts (outer.filterMap (·.frame)) h₀' → Fr h₀' L h' m → News h₀' L h' news → Q .none { s with heap := h', toks := tk' }) :
    wpAny (model pw w) (ktrTop dp un gd cn cs L a ccd [] outer) (call (.ref 783) [.str x t]) Q E s :=
  lread_c B F X N T hk G D hbs hsz hd hu (fun ws' e' => by rw [e] at e'; cases e') fun _ => hX
theorem reduce_k {t1 t2 : Tok} {ap bp : Nat} (ha : ap ≤ 2) (e : opens x.cps.toList ap = bp)
    (B : Below A₀ base outer h₀) (F : Fr h₀ L s.heap m) (X : (K w.params).In h₀) (N : News h₀ L s.heap news) (T : Top q loose mean mg mb h₀) (hk : cs.kind = .function)
    (hd : dp + 5 < recursionLimit) (hu : un + 40 < cLine)
    (hret : ∀ t' h' tk', Fr h₀ L h' m → News h₀ L h' news → Q (.int (bp : Nat) t') { s with heap := h', toks := tk' }) :
    wpAny (model pw w) (ktrTop dp un gd cn cs L a ccd [] outer) (call (.ref 743) [.ref 769, .str x t1, .int (ap : Nat) t2]) Q E s := by
  subst e; exact reduce_c ha B F X N T hk hd hu hret
end
abbrev hmap (x y : Str) (t1 t2 t3 t4 : Tok) (pa pb : Nat) : Str → Option Value := fun z => ([("b", .int (pb : Nat) t4), ("a", .int (pa : Nat) t3), ("mirror", .str y t2), ("text", .str x t1)] : List (Str × Value)).lookup z
theorem ne_ints {prog : Program} {w : World} {A : Around} {E : Value → Shared → Prop} {s : Shared} {i j : Nat} {t u : Tok} {Q : Value → Shared → Prop} (h : i ≠ j) (hq : Q (.bool true) s) : wpAny (model prog w) A (compareOp .NotEq (.int (i : Nat) t) (.int (j : Nat) u)) Q E s := by
  refine ne_int ?_
  have : (((i : Nat) : Int) != ((j : Nat) : Int)) = true := by rw [bne_iff_ne]; omega
  rw [this]; exact hq
theorem eq_ints' {prog : Program} {w : World} {A : Around} {E : Value → Shared → Prop} {s : Shared} {i j : Nat} {t u : Tok} {Q : Value → Shared → Prop} (h : i = j) (hq : Q (.bool false) s) : wpAny (model prog w) A (compareOp .NotEq (.int (i : Nat) t) (.int (j : Nat) u)) Q E s := by
  refine ne_int ?_
  have : (((i : Nat) : Int) != ((j : Nat) : Int)) = false := by rw [bne_eq_false_iff_eq]; omega
  rw [this]; exact hq
local macro_rules | `(tactic| walk_at "compareOp NotEq int int") => `(tactic| (k_here; k_dflt (first
  | (refine' ne_ints ?ne ?_; (case ne => assumption); k_whole)
  | (refine' eq_ints' ?ne ?_; (case ne => assumption); k_whole))))
local macro_rules | `(tactic| walk_at "LeaveS") => `(tactic| ((k_dflt (refine' leaveS_r ?F ?N ?T ?_; (case F => k_asm); (case N => k_asm); (case T => exact KtsTurn.trans (by assumption) (by assumption)); k_whole); intro kg kT kF kN kB kX₀ kP kD); kts_tail))
local macro_rules | `(tactic| walk_at "execs") => `(tactic| (k_here; rw [lh_body]; unfold lhP0 lhP1 lhP2 lhP3 lhP4 lhP5))
local macro_rules | `(tactic| walk_at "subscriptTail Name Name ref int") => `(tactic| (k_here; k_dflt (refine' mark_item ?k1 ?kN ?km ?_ ?k3 ?k4; (case k1 => assumption); (case kN => k_asm); (case km => k_mem); (case k3 => with_unfolding_all rfl); (case k4 => (intro _; with_unfolding_all rfl)); k_whole); intro t9; (try dsimp only)))
local macro_rules | `(tactic| walk_at "call ref") => `(tactic| (k_here; k_dflt (first
  | (refine' lread_s ?re ?rB ?rF ?rX ?rN ?rT ?rK ?rG ?rD ?rb ?rz ?rd ?ru ?_; (case re => with_reducible assumption); (case rB => k_asm); (case rF => k_asm); (case rX => k_asm);  (case rN => k_asm); (case rT => k_asm); (case rK => first | exact rfl | assumption); (case rG => assumption); (case rD => k_asm); (case rb => assumption); (case rz => assumption); (case rd => ktr_room); (case ru => ktr_units); k_whole; intro S9 vs9 c9 g9 h9 tk9 hv9 T9 B9 X9 P9 D9 F9 N9; (try dsimp only))
  | (refine' lread_n ?re ?rB ?rF ?rX ?rN ?rT ?rK ?rG ?rD ?rb ?rz ?rd ?ru ?_; (case re => with_reducible assumption); (case rB => k_asm); (case rF => k_asm); (case rX => k_asm);  (case rN => k_asm); (case rT => k_asm); (case rK => first | exact rfl | assumption); (case rG => assumption); (case rD => k_asm); (case rb => assumption); (case rz => assumption); (case rd => ktr_room); (case ru => ktr_units); k_whole; intro g9 h9 tk9 T9 B9 X9 P9 D9 F9 N9; (try dsimp only))
  | (refine' reduce_k ?rp ?re ?rB ?rF ?rX ?rN ?rT ?rK ?rd ?ru ?_; (case rp => assumption); (case re => assumption); (case rB => k_asm); (case rF => k_asm); (case rX => k_asm); (case rN => k_asm); (case rT => k_asm); (case rK => first | exact rfl | assumption); (case rd => ktr_room); (case ru => ktr_units); k_whole; intro t9 h9 tk9 F9 N9; (try dsimp only))
  | (refine' words_c ?rz ?rB ?rF ?rX ?rN ?rT ?rK ?rd ?ru ?_; (case rz => assumption); (case rB => k_asm); (case rF => k_asm); (case rX => k_asm); (case rN => k_asm); (case rT => k_asm); (case rK => first | exact rfl | assumption); (case rd => ktr_room); (case ru => ktr_units); k_whole; intro S9 vs9 n9 h9 tk9 hv9 l9 F9 N9; (try dsimp only)))))
section
variable {w : World} {mean : ExcName → Option Value} {mg mb : Str → Option Value} {dp un : Nat} {gd : Option (List Code)} {outer : List Env} {A₀ : Around} {base h₀ : Heap} {L : Addr} {news : List (Addr × Obj)} {s : Shared} {Q : Flow → Shared → Prop} {E : Value → Shared → Prop} {x y : Str} {t1 t2 t3 t4 : Tok} {pa pb : Nat}
theorem holds_n (ha : pa ≤ 2) (hb : pb ≤ 2) (hne : opens x.cps.toList pa ≠ pb)
    (e1 : reads ((⟨(mk pa).toArray⟩ : Str) ++ x ++ ⟨(mk pb).toArray⟩).cps.toList = none) (e2 : reads ((⟨(mk pb).toArray⟩ : Str) ++ y ++ ⟨(mk pa).toArray⟩).cps.toList = none)
    (b1 : ∀ c ∈ ((⟨(mk pa).toArray⟩ : Str) ++ x ++ ⟨(mk pb).toArray⟩).cps.toList, (Str.ofString "\\").cps.toList.contains c = false) (b2 : ∀ c ∈ ((⟨(mk pb).toArray⟩ : Str) ++ y ++ ⟨(mk pa).toArray⟩).cps.toList, (Str.ofString "\\").cps.toList.contains c = false)
    (z1 : ((⟨(mk pa).toArray⟩ : Str) ++ x ++ ⟨(mk pb).toArray⟩).length ≤ 1000) (z2 : ((⟨(mk pb).toArray⟩ : Str) ++ y ++ ⟨(mk pa).toArray⟩).length ≤ 1000) (zx : x.length ≤ 100) (zy : y.length ≤ 100) (za : (⟨(mk pa).toArray⟩ : Str).length ≤ 1) (zb : (⟨(mk pb).toArray⟩ : Str).length ≤ 1)
    (B : Below A₀ base outer h₀) (F : Fr h₀ L s.heap (hmap x y t1 t2 t3 t4 pa pb)) (X : (K w.params).In h₀) (N : News h₀ L s.heap news) (T : Top q loose mean mg mb h₀)
    (G : Gd w.params mean mg mb base) (D : KtsDicts (outer.filterMap (·.frame)) h₀)
    (hd : dp + 14 < recursionLimit) (hu : un + 160 < cLine)
    (hret : ∀ h₀' h' tk' m' news', KtsTurn (outer.filterMap (·.frame)) h₀ h₀' → Fr h₀' L h' m' → News h₀' L h' news' → Q (.ret (.bool true)) { s with heap := h', toks := tk' }) :
    wpAny (model pw w) (ktrTop dp un gd "_law_holds" f_law_holds_s L 788 (.ref 787) [] outer) (execs f_law_holds_b (envOf "_law_holds" f_law_holds_s L 788 (.ref 787))) Q E s := by
  obtain ⟨o, ho⟩ : ∃ o, opens x.cps.toList pa = o := ⟨_, rfl⟩
  rw [ho] at hne
  unfold hmap at F
  k_steps
  all_goals exact hret _ _ _ _ _ (KtsTurn.trans (by assumption) (by assumption)) (by k_asm) (by k_asm)
end
end Mine
end
section
open Lean Meta Elab PySem PySem.W PyProof.Rows
set_option maxRecDepth 100000
set_option maxHeartbeats 0
set_option Elab.async false
set_option linter.unusedVariables false
namespace Mine
theorem fillAJ : (fun (_ : Params → Frag) (_ : OpenLaw) => True) K rw1 := by k_fill; trivial
theorem addR_len (s : List (List Nat) × Option (List Nat)) (x : Cl) (n k : Nat) (h : ∀ w ∈ wdsL s, w.length ≤ n) (hc : (wdsL s).length ≤ k) : (∀ w ∈ wdsL (addR s x), w.length ≤ n + 1) ∧ (wdsL (addR s x)).length ≤ k + 1 := by
  obtain ⟨ws, cur⟩ := s
  unfold wdsL at *
  dsimp only at h hc
  rw [List.length_append] at hc
  have h1 : ∀ w ∈ ws, w.length ≤ n := fun w hw => h w (List.mem_append_left _ hw)
  have h2 : ∀ w, cur = some w → w.length ≤ n := fun w hw => h w (List.mem_append_right _ (by rw [hw]; exact .head _))
  have h3 : (cur.getD []).length ≤ n := by
    cases cur with
    | none => exact Nat.zero_le _
    | some w => exact h2 w rfl
  cases x with
  | sep =>
    show (∀ w ∈ (ws ++ cur.toList) ++ [], w.length ≤ n + 1) ∧ ((ws ++ cur.toList) ++ []).length ≤ k + 1
    rw [List.append_nil, List.length_append]
    exact ⟨fun w hw => Nat.le_succ_of_le (h w hw), by omega⟩
  | keep c =>
    show (∀ w ∈ ws ++ [cur.getD [] ++ [c]], w.length ≤ n + 1) ∧ (ws ++ [cur.getD [] ++ [c]]).length ≤ k + 1
    refine ⟨fun w hw => ?_, by rw [List.length_append]; show ws.length + 1 ≤ _; omega⟩
    rcases List.mem_append.mp hw with hw | hw
    · exact Nat.le_succ_of_le (h1 w hw)
    · rw [List.mem_singleton.mp hw, List.length_append]
      exact Nat.succ_le_succ h3
  | drop =>
    show (∀ w ∈ ws ++ [cur.getD []], w.length ≤ n + 1) ∧ (ws ++ [cur.getD []]).length ≤ k + 1
    refine ⟨fun w hw => ?_, by rw [List.length_append]; show ws.length + 1 ≤ _; omega⟩
    rcases List.mem_append.mp hw with hw | hw
    · exact Nat.le_succ_of_le (h1 w hw)
    · rw [List.mem_singleton.mp hw]
      exact Nat.le_succ_of_le h3
theorem gL_len (l : List Cl) : ∀ (s : List (List Nat) × Option (List Nat)) (n k : Nat), (∀ w ∈ wdsL s, w.length ≤ n) → (wdsL s).length ≤ k → (∀ w ∈ wdsL (gL s l), w.length ≤ n + l.length) ∧ (wdsL (gL s l)).length ≤ k + l.length := by
  induction l with
  | nil => intro s n k h hc; exact ⟨h, hc⟩
  | cons x r ih =>
    intro s n k h hc
    obtain ⟨a, b⟩ := addR_len s x n k h hc
    have := ih (addR s x) (n + 1) (k + 1) a b
    simp only [List.length_cons]
    rw [show n + (r.length + 1) = n + 1 + r.length by omega, show k + (r.length + 1) = k + 1 + r.length by omega]
    exact this
theorem ann_len : ∀ (t : List Nat) (p : Nat), (ann t p).length = t.length
  | [], _ => rfl
  | c :: r, p => by simp [ann, ann_len r]
theorem wds_len (t : List Nat) : (∀ w ∈ wds t, w.length ≤ t.length) ∧ (wds t).length ≤ t.length := by
  have := gL_len (ann t 0) ([], none) 0 0 (by simp [wdsL]) (by simp [wdsL])
  rw [ann_len, Nat.zero_add] at this
  exact this
theorem rev_z {vs : List Value} {W : List (List Nat)} (h : StrsAre vs (txts W)) (hz : W.length ≤ 900) : vs.toArray.size ≤ sizeLine := by
  have := h.length
  rw [List.length_map] at this
  rw [sizeLine_eq, List.size_toArray]; omega
theorem strs_rev {vs : List Value} {ss : List Str} (h : StrsAre vs ss) : StrsAre vs.reverse ss.reverse := by
  induction h with
  | nil => exact .nil
  | cons y t r ih =>
    rw [List.reverse_cons, List.reverse_cons]
    exact kct_snoc ih
theorem strs_rev2 {vs : List Value} {W : List (List Nat)} (h : StrsAre vs (txts W)) : StrsAre vs.reverse (txts W.reverse) := by
  have := strs_rev h
  rwa [← List.map_reverse] at this
theorem strs_get {vs : List Value} {W : List (List Nat)} (h : StrsAre vs (txts W)) {i : Nat} {v : Value} (hv : vs[i]? = some v) : ∃ wd t, W[i]? = some wd ∧ v = .str ⟨wd.toArray⟩ t := by
  induction W generalizing vs i with
  | nil => cases h; cases hv
  | cons x r ih =>
    cases h with
    | cons y t r2 =>
      cases i with
      | zero => exact ⟨x, t, rfl, (Option.some.inj hv).symm⟩
      | succ i => exact ih r2 hv
noncomputable def lhL : PySem.Expr := litOf (match lhP5 with | .Return (some (.BoolOp _ (_ :: .Compare _ _ (l :: _) _ :: _) _)) _ => l | _ => .Constant .none 0 default) (by conv => rhs; whnf)
noncomputable def lhE : PySem.Expr := litOf (match lhL with | .ListComp e _ _ _ => e | _ => .Constant .none 0 default) (by conv => rhs; whnf)
noncomputable def lhS : Scope := litOf (match lhL with | .ListComp _ _ sc _ => sc | _ => default) (by conv => rhs; whnf)
section
variable {w : World} {mean : ExcName → Option Value} {mg mb : Str → Option Value} {dp un : Nat} {gd : Option (List Code)} {outer : List Env} {A₀ : Around} {base h₀ : Heap} {L : Addr} {m : Str → Option Value} {news : List (Addr × Obj)} {s : Shared} {E : Value → Shared → Prop}
theorem rev_src {W : List (List Nat)} {zs : List Value} {S : Addr} {k : Nat} {Fin : Shared → List Value → List (Addr × Obj) → Prop} (hm : (S, ({ cls := .type "list", data := .seq zs.toArray k } : Obj)) ∈ news) (hv : StrsAre zs (txts W)) (hz : W.length ≤ 900) (hw : ∀ w ∈ W, w.length ≤ 900)
    (B : Below A₀ base outer h₀) (F : Fr h₀ L s.heap m) (X : (K w.params).In h₀) (N : News h₀ L s.heap news) (T : Top q loose mean mg mb h₀)
    (hfin : ∀ g ys, StrsAre ys (txts (W.map List.reverse)) → Fin { s with heap := g } ys news) :
    LCg.CompSrc pw w (ktrTop dp un gd "_law_holds" f_law_holds_s L 788 (.ref 787) [] outer) h₀ L m (envOf "_law_holds" f_law_holds_s L 788 (.ref 787)) lhE "word" lhS [] Fin (.ref S) s := by
  have zl : zs.length = W.length := by have := hv.length; rwa [List.length_map] at this
  refine LCg.CompSrc.ledger rfl F N hm (by rw [List.size_toArray, sizeLine_eq]; omega) fun g => ?_
  rw [List.size_toArray]
  refine rest_gen (fun i ys => StrsAre ys (txts ((W.take i).map List.reverse))) .nil ?_ ?_
  · intro i v I oI C oC D m₂ ys h tk E' hi hP hR hC hx F' N' off ne
    rw [List.getElem?_toArray] at hP
    obtain ⟨wd, t, hwd, rfl⟩ := strs_get hv hP
    have hl : (⟨wd.toArray⟩ : Str).length ≤ sizeLine := by
      have := hw wd (List.mem_of_getElem? hwd)
      rw [sizeLine_eq]
      show wd.toArray.size ≤ _
      rw [List.size_toArray]; omega
    have hnext : ∀ t', StrsAre (ys ++ [.str ⟨wd.reverse.toArray⟩ t']) (txts ((W.take (i + 1)).map List.reverse)) := by
      intro t'
      rw [List.take_add_one, hwd]
      simpa using strs_snoc (w := wd.reverse) (t := t') hR
    unfold lhE lhS
    k_steps
    all_goals exact LCg.CompEnd.intro (by assumption) (by assumption) news (fun p hp => hp) off (.inr ⟨_, hm, rfl, _, rfl⟩) ⟨rfl, by rw [rev_slice]; exact hnext _⟩
  · intro ys hR
    rw [zl, List.take_length] at hR
    exact hfin _ ys hR
end
end Mine
end
section
open Lean Meta Elab PySem PySem.W PyProof.Rows
set_option maxRecDepth 100000
set_option maxHeartbeats 0
set_option Elab.async false
set_option linter.unusedVariables false
namespace Mine
theorem fillAK : (fun (_ : Params → Frag) (_ : OpenLaw) => True) K rw1 := by k_fill; trivial
local macro_rules | `(tactic| walk_at "execs") => `(tactic| (k_here; rw [lh_body]; unfold lhP0 lhP1 lhP2 lhP3 lhP4 lhP5))
local macro_rules | `(tactic| walk_at "LeaveS") => `(tactic| ((k_dflt (refine' leaveS_r ?F ?N ?T ?_; (case F => k_asm); (case N => k_asm); (case T => exact KtsTurn.trans (by assumption) (by assumption)); k_whole); intro kg kT kF kN kB kX₀ kP kD); kts_tail))
local macro_rules | `(tactic| walk_at "subscriptTail Name Name ref int") => `(tactic| (k_here; k_dflt (refine' mark_item ?k1 ?kN ?km ?_ ?k3 ?k4; (case k1 => assumption); (case kN => k_asm); (case km => k_mem); (case k3 => with_unfolding_all rfl); (case k4 => (intro _; with_unfolding_all rfl)); k_whole); intro t9; (try dsimp only)))
section
variable {w : World} {mean : ExcName → Option Value} {mg mb : Str → Option Value} {dp un : Nat} {gd : Option (List Code)} {cn : Str} {cs : Scope} {a : Addr} {ccd : Value} {cl : List (Str × Addr)} {outer : List Env} {A₀ : Around} {base h₀ : Heap} {L : Addr} {m : Str → Option Value} {news : List (Addr × Obj)} {s : Shared} {Q E : Value → Shared → Prop}
theorem words_k {x : Str} {t : Tok} {W : List (List Nat)} (e : wds x.cps.toList = W) (hsz : x.length ≤ 900)
    (B : Below A₀ base outer h₀) (F : Fr h₀ L s.heap m) (X : (K w.params).In h₀) (N : News h₀ L s.heap news) (T : Top q loose mean mg mb h₀) (hk : cs.kind = .function)
    (hd : dp + 10 < recursionLimit) (hu : un + 80 < cLine)
    (hret : ∀ S vs n h' tk', StrsAre vs (txts W) → (∀ p ∈ news, p.1 < S) → Fr h₀ L h' m → News h₀ L h' ((S, lst vs n) :: news) → Q (.ref S) { s with heap := h', toks := tk' }) :
    wpAny (model pw w) (ktrTop dp un gd cn cs L a ccd cl outer) (call (.ref 776) [.str x t]) Q E s := by
  subst e; exact words_c hsz B F X N T hk hd hu hret
end
local macro_rules | `(tactic| walk_at "call ref") => `(tactic| (k_here; k_dflt (first
  | (refine' lread_s ?re ?rB ?rF ?rX ?rN ?rT ?rK ?rG ?rD ?rb ?rz ?rd ?ru ?_; (case re => with_reducible assumption); (case rB => k_asm); (case rF => k_asm); (case rX => k_asm);  (case rN => k_asm); (case rT => k_asm); (case rK => first | exact rfl | assumption); (case rG => assumption); (case rD => k_asm); (case rb => assumption); (case rz => assumption); (case rd => ktr_room); (case ru => ktr_units); k_whole; intro S9 vs9 c9 g9 h9 tk9 hv9 T9 B9 X9 P9 D9 F9 N9; (try dsimp only))
  | (refine' reduce_k ?rp ?re ?rB ?rF ?rX ?rN ?rT ?rK ?rd ?ru ?_; (case rp => assumption); (case re => assumption); (case rB => k_asm); (case rF => k_asm); (case rX => k_asm); (case rN => k_asm); (case rT => k_asm); (case rK => first | exact rfl | assumption); (case rd => ktr_room); (case ru => ktr_units); k_whole; intro t9 h9 tk9 F9 N9; (try dsimp only))
  | (refine' words_k ?re ?rz ?rB ?rF ?rX ?rN ?rT ?rK ?rd ?ru ?_; (case re => assumption); (case rz => assumption); (case rB => k_asm); (case rF => k_asm); (case rX => k_asm); (case rN => k_asm); (case rT => k_asm); (case rK => first | exact rfl | assumption); (case rd => ktr_room); (case ru => ktr_units); k_whole; intro S9 vs9 n9 h9 tk9 hv9 l9 F9 N9; (try dsimp only)))))
local macro_rules | `(tactic| walk_at "compareOp NotEq int int") => `(tactic| (k_here; k_dflt (refine' eq_ints' ?ne ?_; (case ne => exact rfl); k_whole)))
theorem eq_strs2 {prog : Program} {w : World} {A : Around} {E : Value → Shared → Prop} {s : Shared} {a b : Addr} {vs us : List Value} {ss : List Str} {h₀ : Heap} {L : Addr} {n1 n2 : Nat} {news : List (Addr × Obj)} {Q : Value → Shared → Prop}
    (N : News h₀ L s.heap news) (h1 : StrsAre vs ss) (h2 : StrsAre us ss) (m1 : (a, lst vs n1) ∈ news) (m2 : (b, lst us n2) ∈ news) (hu : A.units < cLine) (h : Q (.bool true) s) : wpAny (model prog w) A (compareOp .Eq (.ref a) (.ref b)) Q E s :=
  eq_strs ⟨_, (N _ m1).1, rfl, _, rfl⟩ ⟨_, (N _ m2).1, rfl, _, rfl⟩ h1 h2 hu h
local macro_rules | `(tactic| walk_at "compareOp Eq ref ref") => `(tactic| (k_here; k_dflt (refine' eq_strs2 ?eN ?e1 ?e2 ?ea ?eb ?eu ?_; (case eN => k_asm); (case ea => k_mem); (case eb => k_mem); (case e1 => with_reducible assumption); (case e2 => with_reducible assumption); (case eu => ktr_units); k_whole)))
theorem rev_l {prog : Program} {w : World} {A : Around} {E : Value → Shared → Prop} {s : Shared} {l : Addr} {vs : List Value} {W : List (List Nat)} {h₀ : Heap} {L : Addr} {m : Str → Option Value} {n : Nat} {news : List (Addr × Obj)} {Q : Value → Shared → Prop} {value slice : PySem.Expr} {vk : Value} {ops : List Value}
    (F : Fr h₀ L s.heap m) (N : News h₀ L s.heap news) (hm : (l, lst vs n) ∈ news) (hv : StrsAre vs (txts W)) (hz : W.length ≤ 900) (pk : IsPart vk (some (-1)))
    (h : ∀ D h', Fr h₀ L h' m → News h₀ L h' ((D, ({ cls := .type "list", data := .seq vs.reverse.toArray 0 } : Obj)) :: news) → (∀ p ∈ news, p.1 < D) → Q (.ref D) { s with heap := h' })
    (hs : subscripted slice false (.ref l) (.ref s.heap.objs.size) = operate ops (getItem (.ref l) (.ref s.heap.objs.size))) (ht : ∀ r, letTemporaryGo value (.ref l) r = pure ()) :
    wpAny (model prog w) A (subscriptTail value slice (.ref l) (.ref s.heap.objs.size)) Q E { s with heap := s.heap.push { cls := .type "slice", data := .fields #[.none, .none, vk] } } :=
  krv_lit (its := vs.toArray) (zs := vs.reverse) F N ⟨_, (N _ hm).1, rfl, _, rfl⟩ pk rfl h hs ht (rev_z hv hz)
local macro_rules | `(tactic| walk_at "subscriptTail Name Slice ref ref") => `(tactic| (k_here; k_dflt (refine' rev_l ?F ?N ?l ?v ?z ?k ?_ ?s ?t; (case F => k_asm); (case N => k_asm); (case l => k_mem); (case v => with_reducible assumption); (case z => with_reducible assumption); (case k => exact IsPart.int _ _); (case s => with_unfolding_all rfl); (case t => kmk_pure)); intro D' h' F' N' l1; (try k_lt l1)))
local macro_rules | `(tactic| walk_at "eval ListComp") => `(tactic| (k_here; k_dflt (refine LCg.ListComp_U (F₀ := by k_asm) (by rfl) (by decide) (by rfl) (by decide) (by rfl) ?_)))
section
variable {w : World} {mean : ExcName → Option Value} {mg mb : Str → Option Value} {dp un : Nat} {gd : Option (List Code)} {outer : List Env} {A₀ : Around} {base h₀ : Heap} {L : Addr} {m : Str → Option Value} {news : List (Addr × Obj)} {s : Shared} {E : Value → Shared → Prop}
theorem rev_src2 {W : List (List Nat)} {vs : List Value} {S : Addr} {k : Nat} {Fin : Shared → List Value → List (Addr × Obj) → Prop} (hm : (S, ({ cls := .type "list", data := .seq vs.reverse.toArray k } : Obj)) ∈ news) (hv : StrsAre vs (txts W)) (hz : W.length ≤ 900) (hw : ∀ w ∈ W, w.length ≤ 900)
    (B : Below A₀ base outer h₀) (F : Fr h₀ L s.heap m) (X : (K w.params).In h₀) (N : News h₀ L s.heap news) (T : Top q loose mean mg mb h₀)
    (hfin : ∀ g ys, StrsAre ys (txts (mir W)) → Fin { s with heap := g } ys news) :
    LCg.CompSrc pw w (ktrTop dp un gd "_law_holds" f_law_holds_s L 788 (.ref 787) [] outer) h₀ L m (envOf "_law_holds" f_law_holds_s L 788 (.ref 787)) lhE "word" lhS [] Fin (.ref S) s := by
  refine rev_src hm (strs_rev2 hv) (by rw [List.length_reverse]; exact hz) (fun w h => hw w (List.mem_reverse.mp h)) B F X N T fun g ys h => hfin g ys ?_
  unfold mir; rwa [← List.map_reverse]
end
local macro_rules | `(tactic| walk_at "CompSrc") => `(tactic| (k_here; k_dflt (refine' rev_src2 ?rm ?rv ?rz ?rw ?rB ?rF ?rX ?rN ?rT ?_; (case rN => k_asm); (case rm => exact List.mem_cons_self); (case rv => with_reducible assumption); (case rz => assumption); (case rw => assumption); (case rB => k_asm); (case rF => k_asm); (case rX => k_asm); (case rT => k_asm); k_whole); intro g9 ys9 hi9; (try dsimp only)))
section
variable {w : World} {mean : ExcName → Option Value} {mg mb : Str → Option Value} {dp un : Nat} {gd : Option (List Code)} {outer : List Env} {A₀ : Around} {base h₀ : Heap} {L : Addr} {news : List (Addr × Obj)} {s : Shared} {Q : Flow → Shared → Prop} {E : Value → Shared → Prop} {x y : Str} {t1 t2 t3 t4 : Tok} {pa pb : Nat}
set_option maxHeartbeats 400000 in
theorem holds_s {W : List (List Nat)} (ha : pa ≤ 2) (hb : pb ≤ 2) (he : opens x.cps.toList pa = pb)
    (eW : wds ((⟨(mk pa).toArray⟩ : Str) ++ x ++ ⟨(mk pb).toArray⟩).cps.toList = W)
    (e1 : reads ((⟨(mk pa).toArray⟩ : Str) ++ x ++ ⟨(mk pb).toArray⟩).cps.toList = some W) (e2 : reads ((⟨(mk pb).toArray⟩ : Str) ++ y ++ ⟨(mk pa).toArray⟩).cps.toList = some (mir W))
    (b1 : ∀ c ∈ ((⟨(mk pa).toArray⟩ : Str) ++ x ++ ⟨(mk pb).toArray⟩).cps.toList, (Str.ofString "\\").cps.toList.contains c = false) (b2 : ∀ c ∈ ((⟨(mk pb).toArray⟩ : Str) ++ y ++ ⟨(mk pa).toArray⟩).cps.toList, (Str.ofString "\\").cps.toList.contains c = false)
    (z1 : ((⟨(mk pa).toArray⟩ : Str) ++ x ++ ⟨(mk pb).toArray⟩).length ≤ 1000) (z2 : ((⟨(mk pb).toArray⟩ : Str) ++ y ++ ⟨(mk pa).toArray⟩).length ≤ 1000) (z3 : ((⟨(mk pa).toArray⟩ : Str) ++ x ++ ⟨(mk pb).toArray⟩).length ≤ 900) (zx : x.length ≤ 100) (zy : y.length ≤ 100) (za : (⟨(mk pa).toArray⟩ : Str).length ≤ 1) (zb : (⟨(mk pb).toArray⟩ : Str).length ≤ 1)
    (hz : W.length ≤ 900) (hw : ∀ w ∈ W, w.length ≤ 900)
    (B : Below A₀ base outer h₀) (F : Fr h₀ L s.heap (hmap x y t1 t2 t3 t4 pa pb)) (X : (K w.params).In h₀) (N : News h₀ L s.heap news) (T : Top q loose mean mg mb h₀)
    (G : Gd w.params mean mg mb base) (D : KtsDicts (outer.filterMap (·.frame)) h₀)
    (hd : dp + 14 < recursionLimit) (hu : un + 160 < cLine)
    (hret : ∀ h₀' h' tk' m' news', KtsTurn (outer.filterMap (·.frame)) h₀ h₀' → Fr h₀' L h' m' → News h₀' L h' news' → Q (.ret (.bool true)) { s with heap := h', toks := tk' }) :
    wpAny (model pw w) (ktrTop dp un gd "_law_holds" f_law_holds_s L 788 (.ref 787) [] outer) (execs f_law_holds_b (envOf "_law_holds" f_law_holds_s L 788 (.ref 787))) Q E s := by
  unfold hmap at F
  k_steps
  all_goals exact hret _ _ _ _ _ (KtsTurn.trans (by assumption) (by assumption)) (by k_asm) (by k_asm)
theorem add3 (p r : List Nat) (x : Str) : ((⟨p.toArray⟩ : Str) ++ x ++ ⟨r.toArray⟩).cps.toList = p ++ x.cps.toList ++ r := by
  show (p.toArray ++ x.cps ++ r.toArray).toList = _
  simp
theorem mk_len (k : Nat) : (mk k).length ≤ 1 := by
  match k with
  | 0 => exact Nat.zero_le _
  | 1 => exact Nat.le_refl _
  | _ + 2 => exact Nat.le_refl _
theorem mk_bs (k : Nat) : ∀ c ∈ mk k, c ≠ 92 := by
  match k with
  | 0 => intro c h; cases h
  | 1 => intro c h; rw [List.mem_singleton.mp h]; decide
  | _ + 2 => intro c h; rw [List.mem_singleton.mp h]; decide
theorem bs_not {c : Nat} (h : c ≠ 92) : (Str.ofString "\\").cps.toList.contains c = false := by
  have : (Str.ofString "\\").cps.toList = [92] := by decide +kernel
  rw [this]
  simpa using h
/-- _law_holds -/
theorem holds_c (ha : pa ≤ 2) (hb : pb ≤ 2) (hy : y.cps.toList = x.cps.toList.reverse) (hbs : ∀ c ∈ x.cps.toList, c ≠ 92) (zx : x.length ≤ 100)
    (B : Below A₀ base outer h₀) (F : Fr h₀ L s.heap (hmap x y t1 t2 t3 t4 pa pb)) (X : (K w.params).In h₀) (N : News h₀ L s.heap news) (T : Top q loose mean mg mb h₀)
    (G : Gd w.params mean mg mb base) (D : KtsDicts (outer.filterMap (·.frame)) h₀)
    (hd : dp + 14 < recursionLimit) (hu : un + 160 < cLine)
    (hret : ∀ h₀' h' tk' m' news', KtsTurn (outer.filterMap (·.frame)) h₀ h₀' → Fr h₀' L h' m' → News h₀' L h' news' → Q (.ret (.bool true)) { s with heap := h', toks := tk' }) :
    wpAny (model pw w) (ktrTop dp un gd "_law_holds" f_law_holds_s L 788 (.ref 787) [] outer) (execs f_law_holds_b (envOf "_law_holds" f_law_holds_s L 788 (.ref 787))) Q E s := by
  have xl : x.cps.toList.length = x.length := by rw [Array.length_toList]; rfl
  have yl : y.length = x.length := by
    rw [← xl, ← List.length_reverse, ← hy, Array.length_toList]; rfl
  have sl : ∀ z : Str, z.length = z.cps.toList.length := fun z => by rw [Array.length_toList]; rfl
  have la := mk_len pa
  have lb := mk_len pb
  have k1 : ((⟨(mk pa).toArray⟩ : Str) ++ x ++ ⟨(mk pb).toArray⟩).length ≤ 900 := by rw [sl, add3, List.length_append, List.length_append]; omega
  have k2 : ((⟨(mk pb).toArray⟩ : Str) ++ y ++ ⟨(mk pa).toArray⟩).length ≤ 900 := by rw [sl, add3, List.length_append, List.length_append, ← sl]; omega
  have b1 : ∀ c ∈ ((⟨(mk pa).toArray⟩ : Str) ++ x ++ ⟨(mk pb).toArray⟩).cps.toList, (Str.ofString "\\").cps.toList.contains c = false := by
    intro c hc
    rw [add3] at hc
    refine bs_not ?_
    rcases List.mem_append.mp hc with hc | hc
    · rcases List.mem_append.mp hc with hc | hc
      · exact mk_bs _ c hc
      · exact hbs c hc
    · exact mk_bs _ c hc
  have b2 : ∀ c ∈ ((⟨(mk pb).toArray⟩ : Str) ++ y ++ ⟨(mk pa).toArray⟩).cps.toList, (Str.ofString "\\").cps.toList.contains c = false := by
    intro c hc
    rw [add3, hy] at hc
    refine bs_not ?_
    rcases List.mem_append.mp hc with hc | hc
    · rcases List.mem_append.mp hc with hc | hc
      · exact mk_bs _ c hc
      · exact hbs c (List.mem_reverse.mp hc)
    · exact mk_bs _ c hc
  obtain ⟨r1, r2⟩ := told_law ha hb x.cps.toList
  have za : (⟨(mk pa).toArray⟩ : Str).length ≤ 1 := by rw [sl]; exact la
  have zb : (⟨(mk pb).toArray⟩ : Str).length ≤ 1 := by rw [sl]; exact lb
  by_cases he : opens x.cps.toList pa = pb
  · rw [if_pos he] at r1 r2
    have wl := wds_len (mk pa ++ x.cps.toList ++ mk pb)
    have ll : (mk pa ++ x.cps.toList ++ mk pb).length ≤ 102 := by rw [List.length_append, List.length_append]; omega
    refine holds_s (W := wds (mk pa ++ x.cps.toList ++ mk pb)) ha hb he (by rw [add3]) (by rw [add3]; exact r1) (by rw [add3, hy]; exact r2) b1 b2 (by omega) (by omega) k1 zx (by omega) za zb (by omega) (fun w hw => ?_) B F X N T G D hd hu hret
    have := wl.1 w hw
    omega
  · rw [if_neg he] at r1 r2
    exact holds_n ha hb he (by rw [add3]; exact r1) (by rw [add3, hy]; exact r2) b1 b2 (by omega) (by omega) zx (by omega) za zb B F X N T G D hd hu hret
end
end Mine
end
section
open Lean Meta Elab PySem PySem.W PyProof.Rows PySem.Calls
set_option maxRecDepth 100000
set_option maxHeartbeats 0
set_option Elab.async false
set_option linter.unusedVariables false
namespace Mine
section
variable {prog : Program} {w : World} {A : Around} {s : Shared}
/-- entry of a function with cells, from anywhere -/
theorem codeG_call_cells {R : Result → Shared → Prop} {name qual : Str} {params : Arguments} {body : List Stmt} {scope : Scope} {dV kV doc pm cdv ct : Value} {an : Option Addr} {fo : Obj} {f : Addr} {args : Args} {binds : List (Str × Value)}
    (hroom : A.depth < recursionLimit) (ho : s.heap.get? f = some fo) (hd : fo.data = .func (fnX name qual params body scope [] dV kV doc pm an cdv ct)) (hlim : s.heap.NoLimit) (hcd : s.heap.CodeRec cdv qual)
    (hbind : BindsTo s (fnX name qual params body scope [] dV kV doc pm an cdv ct) args binds)
    (hkind : ∀ n, ∀ x ∈ binds, scope.names.lookup x.1 = some .local ∨ (scope.names.lookup x.1 = some .cell ∧ ((cellsFrom n scope.names []).lookup x.1).isSome = true))
    (hnd : ((cellsFrom 0 scope.names []).map (·.1)).Nodup)
    (h : ∀ L' h₁ tk cells, Fr s.heap L' h₁ (bindL (envOfC qual scope L' f cdv).kindOf binds fun _ => none) → News s.heap L' h₁ cells →
      CellsAre (bindC (envOfC qual scope L' f cdv).kindOf binds fun _ => none) (cellsFrom (L' + 1) scope.names []) cells →
      wpG (model prog w) (A.deeper (envOfC qual scope L' f cdv)) (execs body (envOfC qual scope L' f cdv)) (fun fl s' => R (.ok (.ret (match fl with | .ret v => v | _ => .none))) s')
        (fun e s' => wpAny (model prog w) (A.deeper (envOfC qual scope L' f cdv)) (leaving (envOfC qual scope L' f cdv) e) (fun _ s'' => R (.error e) s'') (fun e' s'' => R (.error e') s'') s')
        { s with heap := h₁, toks := tk })
    (hco : scope.isCoroutine = false) (hgen : scope.isGenerator = false) (hk : scope.kind = .function) : codeG (model prog w) A (.call (.ref f) args) R s := by
  refine codeG_of_tree (wpG.of ?_)
  show wpAny _ A.in1 (callAny (.ref f) args) _ _ s
  simp only [callAny]
  refine wpAny_bind (wpAny_load ho ?_)
  obtain ⟨c, oc, vs, tq, hc, hoc, hdc, hq⟩ := hcd
  simp only [hd, callFunction, hco, hgen]
  have hb : wpAny (model prog w) A.in1 (bindArgs (fnX name qual params body scope [] dV kV doc pm an cdv ct) args) (fun binds s₁ =>
      wpAny (model prog w) A.in1 (newFunctionEnv scope mainGlobals [] binds (qual ++ ".<locals>.") (some f) cdv none builtinsNs)
        (fun env s₂ => s₂.heap.NoLimit ∧ codeG (model prog w) A (.func body env) R s₂) (fun e s' => R (.error e) s') s₁) (fun e s' => R (.error e) s') s := by
    refine hbind _ _ _ _ (wpAny_newFunctionEnv_cells hk (hkind _) fun env' he s' x => ?_)
    subst he
    refine ⟨hlim.keeps x.toInCall.keep, codeG_func ?_⟩
    obtain ⟨h₁, tk, rfl, _⟩ := x.done
    obtain ⟨cells, NC, Y⟩ := Cl.news (h₀ := s.heap) (Nat.le_refl _) fun n c hm => ⟨x.cell n c (lookup_of_mem_nodup (cellsFrom_names scope.names 0 (s.heap.objs.size + 1) [] [] rfl ▸ hnd) hm), x.above n c hm⟩
    exact h s.heap.objs.size h₁ tk cells ⟨x.toInCall.ns, x.toInCall.keep, Nat.le_refl _⟩ NC Y
  rw [hc] at hb ⊢
  refine wpAny_bind (m := field (.ref c) 1) (wpAny_field hoc hdc hq (wpAny_bind (wpAny_pure ?_)))
  exact wpAny_bind (wpAny_mono hb (fun binds s₁ h₁ => wpAny_bind (wpAny_mono h₁ (fun env s₂ h₂ => wpAny_bind (wpAny_enterFrame h₂.1 hroom
    (wpAny_pure (And.intro rfl ⟨rfl, h₂.2⟩)))) fun _ _ h' => h')) fun _ _ h' => h')
end
end Mine
end
section
open Lean Meta Elab PySem PySem.W PyProof.Rows
set_option maxRecDepth 100000
set_option maxHeartbeats 0
set_option Elab.async false
set_option linter.unusedVariables false
namespace Mine
theorem fillAO : (fun (_ : Params → Frag) (_ : OpenLaw) => True) K rw1 := by k_fill; trivial
example : looseW q loose = loose := by decide +kernel
noncomputable def lawP0 : Stmt := litOf (stm flaw_b 0) (by conv => rhs; whnf)
noncomputable def lawP1 : Stmt := litOf (stm flaw_b 1) (by conv => rhs; whnf)
noncomputable def lawP2 : Stmt := litOf (stm flaw_b 2) (by conv => rhs; whnf)
theorem law_body : flaw_b = [lawP0, lawP1, lawP2] := by with_unfolding_all rfl
noncomputable def lawL0 : PySem.Expr := litOf (match lawP0 with | .Assign _ (.Call _ (l :: _) _ _) _ => l | _ => .Constant .none 0 default) (by conv => rhs; whnf)
noncomputable def lawE0 : PySem.Expr := litOf (match lawL0 with | .ListComp e _ _ _ => e | _ => .Constant .none 0 default) (by conv => rhs; whnf)
noncomputable def lawS0 : Scope := litOf (match lawL0 with | .ListComp _ _ sc _ => sc | _ => default) (by conv => rhs; whnf)
local macro_rules | `(tactic| walk_at "call ref") => `(tactic| (k_here; k_dflt (refine' sign_c ?rB ?rF ?rX ?rN ?rT ?rK ?rd ?ru ?_; (case rB => k_asm); (case rF => k_asm); (case rX => k_asm); (case rN => k_asm); (case rT => k_asm); (case rK => first | exact rfl | assumption); (case rd => ktr_room); (case ru => ktr_units); k_whole; intro t9 h9 tk9 F9 N9; (try dsimp only))))
theorem ints_get {vs : List Value} {W : List Int} (h : IntsAre vs W) {i : Nat} {v : Value} (hv : vs[i]? = some v) : ∃ n t, W[i]? = some n ∧ v = .int n t := by
  induction h generalizing i with
  | nil => cases hv
  | cons y t r ih =>
    cases i with
    | zero => exact ⟨y, t, rfl, (Option.some.inj hv).symm⟩
    | succ i => exact ih hv
section
variable {w : World} {mean : ExcName → Option Value} {mg mb : Str → Option Value} {dp un : Nat} {gd : Option (List Code)} {outer : List Env} {A₀ : Around} {base h₀ : Heap} {L fa : Addr} {ccd : Value} {cl : List (Str × Addr)} {m : Str → Option Value} {news : List (Addr × Obj)} {s : Shared} {E : Value → Shared → Prop}
theorem sign_src {W : List Int} {zs : List Value} {S : Addr} {k : Nat} {Fin : Shared → List Value → List (Addr × Obj) → Prop} (hm : (S, ({ cls := .type "list", data := .seq zs.toArray k } : Obj)) ∈ news) (hv : IntsAre zs W) (hz : W.length ≤ 900)
    (B : Below A₀ base outer h₀) (F : Fr h₀ L s.heap m) (X : (K w.params).In h₀) (N : News h₀ L s.heap news) (T : Top q loose mean mg mb h₀) (hd : dp + 4 < recursionLimit) (hu : un + 40 < cLine)
    (hfin : ∀ g ys, StrsAre ys ((W.map sgnC).map fun c => (⟨#[c]⟩ : Str)) → Fin { s with heap := g } ys news) :
    LCg.CompSrc pw w (ktrTop dp un gd "law" flaw_s L fa ccd cl outer) h₀ L m (envX "law" flaw_s L fa ccd cl) lawE0 "x" lawS0 [] Fin (.ref S) s := by
  have zl : zs.length = W.length := hv.length
  refine LCg.CompSrc.ledger rfl F N hm (by rw [List.size_toArray, sizeLine_eq]; omega) fun g => ?_
  rw [List.size_toArray]
  refine rest_gen (fun i ys => StrsAre ys (((W.take i).map sgnC).map fun c => (⟨#[c]⟩ : Str))) .nil ?_ ?_
  · intro i v I oI C oC D m₂ ys h tk E' hi hP hR hC hx F' N' off ne
    rw [List.getElem?_toArray] at hP
    obtain ⟨c, t, hc, rfl⟩ := ints_get hv hP
    have hnext : ∀ t', StrsAre (ys ++ [.str ⟨#[sgnC c]⟩ t']) (((W.take (i + 1)).map sgnC).map fun c => (⟨#[c]⟩ : Str)) := by
      intro t'
      rw [List.take_add_one, hc]
      simpa using kct_snoc (y := (⟨#[sgnC c]⟩ : Str)) (t := t') hR
    unfold lawE0 lawS0
    k_steps
    all_goals exact LCg.CompEnd.intro (by assumption) (by assumption) news (fun p hp => hp) off (.inr ⟨_, hm, rfl, _, rfl⟩) ⟨rfl, hnext _⟩
  · intro ys hR
    rw [zl, List.take_length] at hR
    exact hfin _ ys hR
end
end Mine
end
section
open Lean Meta Elab PySem PySem.W PyProof.Rows
set_option maxRecDepth 100000
set_option maxHeartbeats 0
set_option Elab.async false
set_option linter.unusedVariables false
namespace Mine
theorem fillAP : (fun (_ : Params → Frag) (_ : OpenLaw) => True) K rw1 := by k_fill; trivial
abbrev lawCl (c1 c2 : Nat) : List (Str × Addr) := [("mirror", c2), ("text", c1)]
theorem law_cl (L : Nat) : cellsFrom (L + 1) flaw_s.names [] = lawCl (L + 1) (L + 1 + 1) := by first | rfl | with_unfolding_all rfl
local macro_rules | `(tactic| walk_at "eval ListComp") => `(tactic| (k_here; k_dflt (refine LCg.ListComp_U (F₀ := by k_asm) (by rfl) (by decide) (by rfl) (by decide) (by rfl) ?_)))
local macro_rules | `(tactic| walk_at "call builtin:str.join") => `(tactic| (k_here; k_dflt (refine' join_chars ?rN ?rm ?rs ?rn ?_; (case rN => k_asm); (case rm => exact List.mem_cons_self); (case rs => assumption); (case rn => (simp only [List.length_map, List.length_take, List.length_append, List.length_cons, List.length_nil]; omega)); k_whole); intro t9 k9; (try dsimp only)))
local macro_rules | `(tactic| walk_at "CompSrc") => `(tactic| (k_here; k_dflt (refine' sign_src ?rm ?rv ?rz ?rB ?rF ?rX ?rN ?rT ?rd ?ru ?_; (case rN => k_asm); (case rm => exact List.mem_cons_self); (case rv => with_reducible assumption); (case rz => (simp only [List.length_take, List.length_append, List.length_cons, List.length_nil]; omega)); (case rB => k_asm); (case rF => k_asm); (case rX => k_asm); (case rT => k_asm); (case rd => ktr_room); (case ru => ktr_units); k_whole); intro g9 ys9 hi9; (try dsimp only)))
section
variable {w : World} {mean : ExcName → Option Value} {mg mb : Str → Option Value} {dp un : Nat} {gd : Option (List Code)} {A₀ : Around} {base h₀ : Heap} {L fa : Addr} {ccd : Value} {s : Shared} {Q : Flow → Shared → Prop} {E : Value → Shared → Prop} {l : Addr} {vs : List Value} {ns : List Int} {o1 o2 : Obj} {c1 c2 : Nat} {t0 : Nat}
theorem law_0 (hl : h₀.IsList l vs.toArray) (hi : IntsAre vs ns) (hn : ns.length ≤ 63) (d1 : o1.data = .cell none) (d2 : o2.data = .cell none) (hc : c1 ≠ c2)
    (B : Below A₀ base [] h₀) (F : Fr h₀ L s.heap (fun y => if y = "script" then some (.ref l) else none)) (X : (K w.params).In h₀) (N : News h₀ L s.heap [(c2, o2), (c1, o1)]) (T : Top q loose mean mg mb h₀)
    (hd : dp + 8 < recursionLimit) (hu : un + 100 < cLine)
    (hret : ∀ t h' tk' o1', o1'.data = .cell (some (.str ⟨(((ns ++ [0, 6, 2]).take 6).map sgnC).toArray⟩ t)) → Fr h₀ L h' (fun y => if y = "script" then some (.ref l) else none) → News h₀ L h' [(c2, o2), (c1, o1')] → Q .next { s with heap := h', toks := tk' }) :
    wpAny (model pw w) (ktrTop dp un gd "law" flaw_s L fa ccd (lawCl c1 c2) []) (exec lawP0 (envX "law" flaw_s L fa ccd (lawCl c1 c2))) Q E s := by
  unfold lawP0
  k_steps
  all_goals exact hret _ _ _ _ (by assumption) (by k_asm) (news_tail (news_tail (news_tail (news_tail (news_tail (by k_asm))))))
end
end Mine
end
section
open Lean Meta Elab PySem PySem.W PyProof.Rows PySem.Calls
set_option maxRecDepth 100000
set_option maxHeartbeats 0
set_option Elab.async false
set_option linter.unusedVariables false
namespace Mine
theorem fillAQ : (fun (_ : Params → Frag) (_ : OpenLaw) => True) K rw1 := by k_fill; trivial
section
variable {w : World} {mean : ExcName → Option Value} {mg mb : Str → Option Value} {dp un : Nat} {gd : Option (List Code)} {A₀ : Around} {base h₀ : Heap} {L fa : Addr} {ccd : Value} {cl : List (Str × Addr)} {m : Str → Option Value} {news : List (Addr × Obj)} {s : Shared} {Q E : Value → Shared → Prop}
theorem holds0_c {x y : Str} {t1 t2 t3 t4 : Tok} {pa pb : Nat} (ha : pa ≤ 2) (hb : pb ≤ 2) (hy : y.cps.toList = x.cps.toList.reverse) (hbs : ∀ c ∈ x.cps.toList, c ≠ 92) (zx : x.length ≤ 100)
    (B : Below A₀ base [] h₀) (F : Fr h₀ L s.heap m) (X : (K w.params).In h₀) (N : News h₀ L s.heap news) (T : Top q loose mean mg mb h₀)
    (G : Gd w.params mean mg mb base) (hd : dp + 16 < recursionLimit) (hu : un + 180 < cLine)
    (hret : ∀ h' tk', Fr h₀ L h' m → News h₀ L h' news → Q (.bool true) { s with heap := h', toks := tk' }) :
    wpAny (model pw w) (ktrTop dp un gd "law" flaw_s L fa ccd cl []) (call (.ref 788) [.str x t1, .str y t2, .int (pa : Nat) t3, .int (pb : Nat) t4]) Q E s := by
  refine wpAny_call ?_
  have X' := X.keeps F.keep
  obtain ⟨oL, es, ep, hL, hLd, hLk, hLf⟩ := F.ns
  refine codeAny_call_def (binds := [("text", .str x t1), ("mirror", .str y t2), ("a", .int (pa : Nat) t3), ("b", .int (pb : Nat) t4)]) (by show dp < _; omega) (X' 788 _ (by k_is)) rfl (T.nolimit.keeps F.keep) (codeRec_of X' (by k_is)) rfl (BindsTo.of_eq rfl) ?hcell ?hloc ?hh ?hco ?hgen ?hk
  case hcell => decide
  case hloc => exact locs rfl
  case hco => rfl
  case hgen => rfl
  case hk => rfl
  intro h₁ hns hk₁
  have B' := pushX (env := envX "law" flaw_s L fa ccd cl) B F rfl rfl
  have nL : h₀.get? L = none := kts_self F

  refine wpAny_mono (holds_c (dp := dp + 1) (un := un + 3) (gd := gd) (outer := [envX "law" flaw_s L fa ccd cl]) (base := base) (h₀ := s.heap) (L := s.heap.objs.size) (news := []) (Q := fun f s' => f = .ret (.bool true) ∧ Q (.bool true) s') (E := fun _ _ => False) ha hb hy hbs zx B' ⟨hns, hk₁, Nat.le_refl _⟩ X' News.nil (T.keeps F.keep) G ?D (by omega) (by omega) ?ret) (fun f s' hq => ?fin) fun _ _ h => False.elim h
  case D =>
    intro b hb
    have hb' : b ∈ [L] := hb
    rw [List.mem_singleton.mp hb']
    exact ⟨oL, es, ep, hL, hLd⟩
  case fin =>
    obtain ⟨rfl, hq⟩ := hq
    exact hq
  intro g' h' tk' m' news' T' F' N'
  refine ⟨rfl, ?_⟩
  have old : ∀ b o, s.heap.get? b = some o → b ≠ L → h'.get? b = some o := fun b o e hb => F'.keep _ _ (T'.other b o e fun hm => by
    have hm' : b ∈ [L] := hm
    exact hb (List.mem_singleton.mp hm'))
  obtain ⟨sl, hs⟩ := T'.up hL
  refine hret h' tk' ⟨⟨_, es, ep, F'.keep _ _ hs, hLd, hLk, hLf⟩, fun b o e => old b o (F.keep b o e) (fun q => by rw [q, nL] at e; cases e), F.above⟩ fun p hp => ⟨old _ _ (N p hp).1 (N p hp).2.1, (N p hp).2⟩
end
end Mine
end
section
open Lean Meta Elab PySem PySem.W PyProof.Rows PySem.Calls
set_option maxRecDepth 100000
set_option maxHeartbeats 0
set_option Elab.async false
set_option linter.unusedVariables false
namespace Mine
section
variable {prog : Program} {w : World} {A : Around} {E : Value → Shared → Prop} {s : Shared} {R : Result → Shared → Prop}
variable {elt ta ia tb ib tst : PySem.Expr} {scope : Scope} {pos : Pos} {it acc : Value} {env : Env}
theorem turn_two0 : compTurn (.ListComp elt [⟨ta, ia, [], 0⟩, ⟨tb, ib, [tst], 0⟩] scope pos) 0 it acc env = (do
    standAt ia.pos
    match ← pyNext it with
    | none => pure (.done .next)
    | some v =>
      letOwnedTupleGo ta it v
      assign ta env v
      let mut ok := true
      for c in ([] : List PySem.Expr) do
        if ok then ok ← isTrue c env (eval c env)
      if ok then
        let x ← eval ib env
        standAt ib.pos
        let x ← foldedSetIterable ib env x
        let _ ← runOwn (.compStart (.ListComp elt [⟨ta, ia, [], 0⟩, ⟨tb, ib, [tst], 0⟩] scope pos) 1 (← holding [x] (pyIter x)) acc env) env
      again (.compLoop (.ListComp elt [⟨ta, ia, [], 0⟩, ⟨tb, ib, [tst], 0⟩] scope pos) 0 it acc env)) := by rfl
theorem turn_two1 : compTurn (.ListComp elt [⟨ta, ia, [], 0⟩, ⟨tb, ib, [tst], 0⟩] scope pos) 1 it acc env = (do
    standAt ib.pos
    match ← pyNext it with
    | none => pure (.done .next)
    | some v =>
      letOwnedTupleGo tb it v
      assign tb env v
      let mut ok := true
      for c in [tst] do
        if ok then ok ← isTrue c env (eval c env)
      if ok then
        (do let _ ← call (.builtin "list.append") [acc, ← eval elt env])
      again (.compLoop (.ListComp elt [⟨ta, ia, [], 0⟩, ⟨tb, ib, [tst], 0⟩] scope pos) 1 it acc env)) := by rfl
theorem loop_two1 (I : Nat → Shared → Prop)
    (turn : ∀ n s, I n s → wpAny (model prog w) A (pyNext it) (fun r s₁ => match r with
      | none => R (.ok .next) s₁
      | some v => wpAny (model prog w) A (assign tb env v) (fun _ s₂ => wpAny (model prog w) A (isTrue tst env (eval tst env)) (fun ok s₃ => ok = false ∧ ∃ m, m < n ∧ I m s₃) (notedBy (model prog w) A env fun e s' => R (.error e) s') s₂)
          (notedBy (model prog w) A env fun e s' => R (.error e) s') s₁) (notedBy (model prog w) A env fun e s' => R (.error e) s') s)
    (n : Nat) (h : I n s) (ht : ∀ v, letOwnedTupleGo tb it v = pure ()) :
    codeAny (model prog w) A (.compLoop (.ListComp elt [⟨ta, ia, [], 0⟩, ⟨tb, ib, [tst], 0⟩] scope pos) 1 it acc env) R s := by
  refine codeAny_loop rfl I (fun n s hI => ?_) n h
  show wpAny _ A ((compTurn (.ListComp elt [⟨ta, ia, [], 0⟩, ⟨tb, ib, [tst], 0⟩] scope pos) 1 it acc env).onRaise (fun x => do noteFrame x env; theTreesLotGoes x)) _ _ s
  refine wpAny_noted ?_
  rw [turn_two1]
  refine wpAny_bind (wpAny_standAt (wpAny_bind (wpAny_mono (turn n s hI) (fun r s₁ h₁ => ?_) fun _ _ h' => h')))
  cases r with
  | none => exact wpAny_pure h₁
  | some v =>
    refine wpAny_bind (wpAny_of_eq (ht v) ?_)
    refine wpAny_bind (wpAny_mono h₁ (fun _ s₂ h₂ => wpAny_bind (wpAny_tests_one (wpAny_mono h₂ (fun ok s₃ h₃ => ?_) fun _ _ h' => h'))) fun _ _ h' => h')
    obtain ⟨rfl, h₃⟩ := h₃
    exact wpAny_pure ⟨rfl, h₃⟩
theorem loop_two0 (I : Nat → Shared → Prop)
    (turn : ∀ n s, I n s → wpAny (model prog w) A (pyNext it) (fun r s₁ => match r with
      | none => R (.ok .next) s₁
      | some v => wpAny (model prog w) A (assign ta env v) (fun _ s₂ => wpAny (model prog w) A (eval ib env) (fun x s₃ => wpAny (model prog w) A (pyIter x) (fun it2 s₄ =>
          wpAny (model prog w) A (runOwn (.compStart (.ListComp elt [⟨ta, ia, [], 0⟩, ⟨tb, ib, [tst], 0⟩] scope pos) 1 it2 acc env) env) (fun _ s₅ => ∃ m, m < n ∧ I m s₅) (notedBy (model prog w) A env fun e s' => R (.error e) s') s₄)
          (notedBy (model prog w) A env fun e s' => R (.error e) s') s₃) (notedBy (model prog w) A env fun e s' => R (.error e) s') s₂)
          (notedBy (model prog w) A env fun e s' => R (.error e) s') s₁) (notedBy (model prog w) A env fun e s' => R (.error e) s') s)
    (n : Nat) (h : I n s) (ht : ∀ v, letOwnedTupleGo ta it v = pure ()) (hf : ∀ x, foldedSetIterable ib env x = pure x) :
    codeAny (model prog w) A (.compLoop (.ListComp elt [⟨ta, ia, [], 0⟩, ⟨tb, ib, [tst], 0⟩] scope pos) 0 it acc env) R s := by
  refine codeAny_loop rfl I (fun n s hI => ?_) n h
  show wpAny _ A ((compTurn (.ListComp elt [⟨ta, ia, [], 0⟩, ⟨tb, ib, [tst], 0⟩] scope pos) 0 it acc env).onRaise (fun x => do noteFrame x env; theTreesLotGoes x)) _ _ s
  refine wpAny_noted ?_
  rw [turn_two0]
  refine wpAny_bind (wpAny_standAt (wpAny_bind (wpAny_mono (turn n s hI) (fun r s₁ h₁ => ?_) fun _ _ h' => h')))
  cases r with
  | none => exact wpAny_pure h₁
  | some v =>
    refine wpAny_bind (wpAny_of_eq (ht v) ?_)
    refine wpAny_bind (wpAny_mono h₁ (fun _ s₂ h₂ => wpAny_bind (wpAny_tests_nil ?_)) fun _ _ h' => h')
    show wpAny _ A (_ >>= _) _ _ s₂
    refine wpAny_bind (wpAny_mono h₂ (fun x s₃ h₃ => wpAny_bind (wpAny_standAt (wpAny_bind (wpAny_of_eq (hf x) (wpAny_bind (wpAny_holding (wpAny_mono h₃ (fun it2 s₄ h₄ => ?_) fun _ _ h' => h'))))))) fun _ _ h' => h')
    exact wpAny_bind (wpAny_mono h₄ (fun _ s₅ h₅ => wpAny_pure ⟨rfl, h₅⟩) fun _ _ h' => h')
theorem start_two1 (h0 : codeAny (model prog w) A (.compLoop (.ListComp elt [⟨ta, ia, [], 0⟩, ⟨tb, ib, [tst], 0⟩] scope pos) 1 it acc env) R s)
    (h : wpAny (model prog w) A (pyIter it) (fun it' s' => codeAny (model prog w) A (.compLoop (.ListComp elt [⟨ta, ia, [], 0⟩, ⟨tb, ib, [tst], 0⟩] scope pos) 1 it' acc env) R s')
      (notedBy (model prog w) A env fun x s' => R (.error x) s') s) :
    codeAny (model prog w) A (.compStart (.ListComp elt [⟨ta, ia, [], 0⟩, ⟨tb, ib, [tst], 0⟩] scope pos) 1 it acc env) R s := by
  refine codeAny_of_tree ?_
  show wpAny _ _ ((compStart (.ListComp elt [⟨ta, ia, [], 0⟩, ⟨tb, ib, [tst], 0⟩] scope pos) 1 it acc env).onRaise (fun x => do noteFrame x env; standAt theWindowsPlace)) _ _ s
  refine wpAny_notedAt ?_
  unfold compStart
  show wpAny _ _ (ask >>= _) _ _ s
  refine wpAny_bind (wpAny_askSetting (wpAny_ite ?_))
  split
  · first
      | exact wpAny_bind (wpAny_pure (wpAny_pure (And.intro rfl h0)))
      | exact wpAny_pure (And.intro rfl h0)
  · first
      | exact wpAny_bind (wpAny_rule (wpAny_bind (wpAny_standAt (wpAny_bind (wpAny_mono h (fun it' s' h' => wpAny_pure (And.intro rfl h')) fun _ _ x => x)))))
      | (refine wpAny_bind (wpAny_rule ?_); show wpAny _ _ (standAt ib.pos >>= _) _ _ s; exact wpAny_bind (wpAny_standAt (wpAny_bind (wpAny_mono h (fun it' s' h' => wpAny_pure (And.intro rfl h')) fun _ _ x => x))))
end
end Mine
end
section
open Lean Meta Elab PySem PySem.W PyProof.Rows
set_option maxRecDepth 100000
set_option maxHeartbeats 0
set_option Elab.async false
set_option linter.unusedVariables false
namespace Mine
theorem fillAS : (fun (_ : Params → Frag) (_ : OpenLaw) => True) K rw1 := by k_fill; trivial
noncomputable def lawL2 : PySem.Expr := litOf (match lawP2 with | .Return (some (.Compare l _ _ _)) _ => l | _ => .Constant .none 0 default) (by conv => rhs; whnf)
noncomputable def lawE2 : PySem.Expr := litOf (match lawL2 with | .ListComp e _ _ _ => e | _ => .Constant .none 0 default) (by conv => rhs; whnf)
noncomputable def lawS2 : Scope := litOf (match lawL2 with | .ListComp _ _ sc _ => sc | _ => default) (by conv => rhs; whnf)
noncomputable def lawR0 : PySem.Expr := litOf (match lawL2 with | .ListComp _ (g :: _) _ _ => g.iter | _ => .Constant .none 0 default) (by conv => rhs; whnf)
noncomputable def lawR1 : PySem.Expr := litOf (match lawL2 with | .ListComp _ (_ :: g :: _) _ _ => g.iter | _ => .Constant .none 0 default) (by conv => rhs; whnf)
noncomputable def lawT : PySem.Expr := litOf (match lawL2 with | .ListComp _ (_ :: ⟨_, _, t :: _, _⟩ :: _) _ _ => t | _ => .Constant .none 0 default) (by conv => rhs; whnf)
noncomputable def lawQa : Pos := litOf (match lawL2 with | .ListComp _ (⟨.Name _ p, _, _, _⟩ :: _) _ _ => p | _ => default) (by conv => rhs; whnf)
noncomputable def lawQb : Pos := litOf (match lawL2 with | .ListComp _ (_ :: ⟨.Name _ p, _, _, _⟩ :: _) _ _ => p | _ => default) (by conv => rhs; whnf)
noncomputable def lawQ : Pos := litOf (match lawL2 with | .ListComp _ _ _ p => p | _ => default) (by conv => rhs; whnf)
theorem lawL2_eq : lawL2 = .ListComp lawE2 [⟨.Name "a" lawQa, lawR0, [], 0⟩, ⟨.Name "b" lawQb, lawR1, [lawT], 0⟩] lawS2 lawQ := by with_unfolding_all rfl
abbrev compCl (c1 c2 : Nat) : List (Str × Addr) := [("text", c1), ("mirror", c2)]
theorem comp_cl {L fa c1 c2 : Nat} {ccd : Value} : closureFor lawS2 (envX "law" flaw_s L fa ccd (lawCl c1 c2)) = pure (compCl c1 c2) := by first | rfl | with_unfolding_all rfl
local macro_rules | `(tactic| walk_at "call ref") => `(tactic| (k_here; k_dflt (refine' holds0_c ?ra ?rb ?ry ?rs ?rz ?rB ?rF ?rX ?rN ?rT ?rG ?rd ?ru ?_; (case ra => assumption); (case rb => assumption); (case ry => assumption); (case rs => assumption); (case rz => assumption); (case rB => k_asm); (case rF => k_asm); (case rX => k_asm); (case rN => k_asm); (case rT => k_asm); (case rG => assumption); (case rd => ktr_room); (case ru => ktr_units); k_whole; intro h9 tk9 F9 N9; (try dsimp only))))
section
variable {w : World} {mean : ExcName → Option Value} {mg mb : Str → Option Value} {dp un : Nat} {gd : Option (List Code)} {A₀ : Around} {base h₀ : Heap} {L fa : Addr} {ccd : Value} {m : Str → Option Value} {rest : List (Addr × Obj)} {s : Shared} {E : Value → Shared → Prop} {c1 c2 : Nat} {o1 o2 oC : Obj} {C : Nat} {m₂ : Str → Option Value}
theorem law_t {x y : Str} {t1 t2 t3 t4 : Tok} {pa pb : Nat} (ha : pa ≤ 2) (hb : pb ≤ 2) (hy : y.cps.toList = x.cps.toList.reverse) (hbs : ∀ c ∈ x.cps.toList, c ≠ 92) (zx : x.length ≤ 100)
    (d1 : o1.data = .cell (some (.str x t1))) (d2 : o2.data = .cell (some (.str y t2))) (hC : LCg.NsObj oC m₂) (ma : m₂ "a" = some (.int (pa : Nat) t3)) (mb' : m₂ "b" = some (.int (pb : Nat) t4))
    (B : Below A₀ base [] h₀) (F : Fr h₀ L s.heap m) (X : (K w.params).In h₀) (N : News h₀ L s.heap ((C, oC) :: (c2, o2) :: (c1, o1) :: rest)) (T : Top q loose mean mg mb h₀)
    (G : Gd w.params mean mg mb base) (hd : dp + 16 < recursionLimit) (hu : un + 180 < cLine) :
    wpAny (model pw w) (ktrTop dp un gd "law" flaw_s L fa ccd (lawCl c1 c2) []) (isTrue lawT (compEnvC lawS2 (compCl c1 c2) C (envX "law" flaw_s L fa ccd (lawCl c1 c2))) (eval lawT (compEnvC lawS2 (compCl c1 c2) C (envX "law" flaw_s L fa ccd (lawCl c1 c2)))))
      (fun ok s' => ok = false ∧ ∃ h' tk', s' = { s with heap := h', toks := tk' } ∧ Fr h₀ L h' m ∧ News h₀ L h' ((C, oC) :: (c2, o2) :: (c1, o1) :: rest)) E s := by
  unfold lawT lawS2
  k_steps
  all_goals assumption
end
abbrev riObj (i : Nat) : Obj := { cls := .type "range_iterator", data := .fields #[rawInt (0 + (i : Nat) * 1), rawInt ((3 : Nat) - (i : Nat) : Int), rawInt 1] }
theorem ri_def {h : Heap} {I : Addr} {i : Nat} : IsRangeIter h I (0 + (i : Nat) * 1) (((3 : Nat) : Int) - (i : Nat)) 1 ↔ h.get? I = some (riObj i) := Iff.rfl
theorem rng_it {prog : Program} {w : World} {A : Around} {E : Value → Shared → Prop} {s : Shared} {h₀ : Heap} {L : Addr} {m : Str → Option Value} {news : List (Addr × Obj)} {r : Addr} {t u v : Tok} {Q : Value → Shared → Prop}
    (hr : IsRange s.heap r 0 3 1 t u v) (F : Fr h₀ L s.heap m) (N : News h₀ L s.heap news)
    (h : ∀ I h', h'.get? I = some (riObj 0) → Fr h₀ L h' m → News h₀ L h' news → (∀ p ∈ news, p.1 ≠ I) → L ≠ I → h₀.get? I = none → Q (.ref I) { s with heap := h' }) : wpAny (model prog w) A (pyIter (.ref r)) Q E s := by
  refine wpAny_pyIter_range hr (by decide) ?_
  exact h _ _ (Heap.get?_push_size _ rfl) (F.push _) (fun p hp => ⟨Heap.get?_push_of_some _ (N p hp).1, (N p hp).2⟩) (fun p hp => Nat.ne_of_lt (Heap.lt_size (N p hp).1)) (Nat.ne_of_lt F.ns.lt) (next_is_new F)
local macro_rules | `(tactic| walk_at "pyIter ref") => `(tactic| (k_here; k_dflt (refine' rng_it ?r ?F ?N ?_; (case r => assumption); (case F => k_asm); (case N => k_asm); k_whole); intro I9 h9 i9 F9 N9 o9 l9 z9; (try dsimp only)))
section
variable {w : World} {mean : ExcName → Option Value} {mg mb : Str → Option Value} {dp un : Nat} {gd : Option (List Code)} {A₀ : Around} {base h₀ : Heap} {L fa : Addr} {ccd : Value} {m : Str → Option Value} {rest : List (Addr × Obj)} {s : Shared} {E : Value → Shared → Prop} {c1 c2 : Nat} {o1 o2 oC : Obj} {C : Nat} {m₂ : Str → Option Value}
theorem law_r1 (hC : LCg.NsObj oC m₂)
    (B : Below A₀ base [] h₀) (F : Fr h₀ L s.heap m) (X : (K w.params).In h₀) (N : News h₀ L s.heap ((C, oC) :: (c2, o2) :: (c1, o1) :: rest)) (T : Top q loose mean mg mb h₀)
    (G : Gd w.params mean mg mb base) (hd : dp + 16 < recursionLimit) (hu : un + 180 < cLine) :
    wpAny (model pw w) (ktrTop dp un gd "law" flaw_s L fa ccd (lawCl c1 c2) []) (eval lawR1 (compEnvC lawS2 (compCl c1 c2) C (envX "law" flaw_s L fa ccd (lawCl c1 c2))))
      (fun xv s₁ => wpAny (model pw w) (ktrTop dp un gd "law" flaw_s L fa ccd (lawCl c1 c2) []) (pyIter xv) (fun it s₂ => ∃ I h' tk', it = .ref I ∧ s₂ = { s with heap := h', toks := tk' } ∧ h'.get? I = some (riObj 0) ∧ Fr h₀ L h' m ∧ News h₀ L h' ((C, oC) :: (c2, o2) :: (c1, o1) :: rest) ∧ (∀ p ∈ (C, oC) :: (c2, o2) :: (c1, o1) :: rest, p.1 ≠ I) ∧ L ≠ I ∧ h₀.get? I = none) E s₁) E s := by
  unfold lawR1 lawS2
  k_steps
  all_goals first | assumption | exact (by assumption : ∀ p ∈ _, (p : Addr × Obj).1 ≠ _) _ (by assumption) | (fail "END")
theorem law_r0
    (B : Below A₀ base [] h₀) (F : Fr h₀ L s.heap m) (X : (K w.params).In h₀) (N : News h₀ L s.heap rest) (T : Top q loose mean mg mb h₀)
    (G : Gd w.params mean mg mb base) (hd : dp + 16 < recursionLimit) (hu : un + 180 < cLine) :
    wpAny (model pw w) (ktrTop dp un gd "law" flaw_s L fa ccd (lawCl c1 c2) []) (eval lawR0 (envX "law" flaw_s L fa ccd (lawCl c1 c2)))
      (fun xv s₁ => wpAny (model pw w) (ktrTop dp un gd "law" flaw_s L fa ccd (lawCl c1 c2) []) (pyIter xv) (fun it s₂ => ∃ I h' tk', it = .ref I ∧ s₂ = { s with heap := h', toks := tk' } ∧ h'.get? I = some (riObj 0) ∧ Fr h₀ L h' m ∧ News h₀ L h' rest ∧ (∀ p ∈ rest, p.1 ≠ I) ∧ L ≠ I ∧ h₀.get? I = none) E s₁) E s := by
  unfold lawR0
  k_steps
  all_goals first | assumption | exact (by assumption : ∀ p ∈ _, (p : Addr × Obj).1 ≠ _) _ (by assumption) | (fail "END")
end
end Mine
end
section
open Lean Meta Elab PySem PySem.W PyProof.Rows PySem.Calls
set_option maxRecDepth 100000
set_option maxHeartbeats 0
set_option Elab.async false
set_option linter.unusedVariables false
namespace Mine
theorem fillAT : (fun (_ : Params → Frag) (_ : OpenLaw) => True) K rw1 := by k_fill; trivial
noncomputable abbrev lawEnv (L fa : Addr) (ccd : Value) (c1 c2 : Nat) : Env := envX "law" flaw_s L fa ccd (lawCl c1 c2)
noncomputable abbrev lawCE (L fa : Addr) (ccd : Value) (c1 c2 C : Nat) : Env := compEnvC lawS2 (compCl c1 c2) C (lawEnv L fa ccd c1 c2)
noncomputable abbrev lawA (dp un : Nat) (gd : Option (List Code)) (L fa : Addr) (ccd : Value) (c1 c2 : Nat) : Around := ktrTop dp un gd "law" flaw_s L fa ccd (lawCl c1 c2) []
noncomputable abbrev lawX : PySem.Expr := .ListComp lawE2 [⟨.Name "a" lawQa, lawR0, [], 0⟩, ⟨.Name "b" lawQb, lawR1, [lawT], 0⟩] lawS2 lawQ
section
variable {w : World} {mean : ExcName → Option Value} {mg mb : Str → Option Value} {dp un : Nat} {gd : Option (List Code)} {A₀ : Around} {base h₀ : Heap} {L fa : Addr} {ccd : Value} {m : Str → Option Value} {rest : List (Addr × Obj)} {s : Shared} {E : Value → Shared → Prop} {c1 c2 : Nat} {o1 o2 oC : Obj} {C I : Nat} {m₂ : Str → Option Value}
/-- a name of the comprehension is set after a step of an iterator -/
theorem set_name {y : Str} {v : Value} {Q : Unit → Shared → Prop} {p : Pos} {oI : Obj} {tl : List (Addr × Obj)} {h h₂ : Heap} {tk : Nat} (hl : lawS2.names.lookup y = some .local) (hC : LCg.NsObj oC m₂)
    (F : Fr h₀ L h m) (N : News h₀ L h ((C, oC) :: tl)) (hk : ∀ b o, b ∉ [I] → h.get? b = some o → h₂.get? b = some o) (hI : h₂.get? I = some oI) (off : ∀ p ∈ (C, oC) :: tl, p.1 ≠ I) (hL : L ≠ I) (h0 : h₀.get? I = none) (offC : ∀ p ∈ tl, p.1 ≠ C)
    (hq : ∀ oC' h' tk', LCg.NsObj oC' (fun z => if z = y then some v else m₂ z) → Fr h₀ L h' m → News h₀ L h' ((C, oC') :: tl) → h'.get? I = some oI → Q () { s with heap := h', toks := tk' }) :
    wpAny (model pw w) (lawA dp un gd L fa ccd c1 c2) (assign (.Name y p) (lawCE L fa ccd c1 c2 C) v) Q E { s with heap := h₂, toks := tk } := by
  have F₂ := LCg.fr_but F hk hL h0
  have N₂ := LCg.news_but N hk off
  have zC := N₂ _ List.mem_cons_self
  refine wpAny_assign_Name (wpAny_storeName_local (lookup_relabel_local hl) (hC.ns zC.1) (fun h₃ hn₃ hs₃ => ?_) (by rfl))
  obtain ⟨oC₃, heC, hoC₃⟩ := LCg.ns_obj hn₃
  refine hq oC₃ h₃ _ hoC₃ (F₂.change hs₃ zC.2.1 zC.2.2) (fun p hp => ?_) (hs₃.extBut _ _ (fun q => off _ List.mem_cons_self q.symm) hI)
  rcases List.mem_cons.mp hp with rfl | hp
  · exact ⟨heC, zC.2⟩
  · have z := N₂ p (List.mem_cons_of_mem _ hp)
    exact ⟨hs₃.extBut _ _ (offC p hp) z.1, z.2⟩
theorem news_in {h : Heap} {oI : Obj} {p1 p2 p3 : Addr × Obj} (N : News h₀ L h (p1 :: p2 :: p3 :: rest)) (hI : h.get? I = some oI) (hL : L ≠ I) (h0 : h₀.get? I = none) : News h₀ L h (p1 :: p2 :: p3 :: (I, oI) :: rest) := fun p hp => by
  simp only [List.mem_cons] at hp
  rcases hp with rfl | rfl | rfl | rfl | hp
  · exact N _ (by simp)
  · exact N _ (by simp)
  · exact N _ (by simp)
  · exact ⟨hI, Ne.symm hL, h0⟩
  · exact N _ (by simp [hp])
theorem news_out {h : Heap} {oI : Obj} {p1 p2 p3 : Addr × Obj} (N : News h₀ L h (p1 :: p2 :: p3 :: (I, oI) :: rest)) : News h₀ L h (p1 :: p2 :: p3 :: rest) ∧ h.get? I = some oI :=
  ⟨fun p hp => N p (by
    simp only [List.mem_cons] at hp ⊢
    rcases hp with h | h | h | h
    · exact .inl h
    · exact .inr (.inl h)
    · exact .inr (.inr (.inl h))
    · exact .inr (.inr (.inr (.inr h)))), (N (I, oI) (by simp)).1⟩
/-- the inner loop -/
theorem law_in {x y : Str} {t1 t2 t3 : Tok} {pa : Nat} {D : Value} {R : Result → Shared → Prop} (ha : pa ≤ 2) (hy : y.cps.toList = x.cps.toList.reverse) (hbs : ∀ c ∈ x.cps.toList, c ≠ 92) (zx : x.length ≤ 100)
    (d1 : o1.data = .cell (some (.str x t1))) (d2 : o2.data = .cell (some (.str y t2))) (hC : LCg.NsObj oC m₂) (ma : m₂ "a" = some (.int (pa : Nat) t3))
    (B : Below A₀ base [] h₀) (F : Fr h₀ L s.heap m) (X : (K w.params).In h₀) (N : News h₀ L s.heap ((C, oC) :: (c2, o2) :: (c1, o1) :: rest)) (T : Top q loose mean mg mb h₀)
    (G : Gd w.params mean mg mb base) (hd : dp + 16 < recursionLimit) (hu : un + 180 < cLine)
    (hI : s.heap.get? I = some (riObj 0)) (offI : ∀ (o : Obj), ∀ p ∈ (C, o) :: (c2, o2) :: (c1, o1) :: rest, p.1 ≠ I) (hL : L ≠ I) (h0 : h₀.get? I = none) (offC : ∀ p ∈ (c2, o2) :: (c1, o1) :: rest, p.1 ≠ C)
    (hR : ∀ h' tk' oC' m', LCg.NsObj oC' m' → Fr h₀ L h' m → News h₀ L h' ((C, oC') :: (c2, o2) :: (c1, o1) :: rest) → R (.ok .next) { s with heap := h', toks := tk' }) :
    codeAny (model pw w) (lawA dp un gd L fa ccd c1 c2) (.compLoop lawX 1 (.ref I) D (lawCE L fa ccd c1 c2 C)) R s := by
  have W := LCg.range_walks (prog := pw) (w := w) (A := lawA dp un gd L fa ccd c1 c2) (I := I) rfl 0 3
  refine loop_two1 (fun k s' => ∃ i h' tk' oC' m', s' = { s with heap := h', toks := tk' } ∧ i ≤ 3 ∧ k = 4 - i ∧ h'.get? I = some (riObj i) ∧ LCg.NsObj oC' m' ∧ m' "a" = some (.int (pa : Nat) t3) ∧ Fr h₀ L h' m ∧ News h₀ L h' ((C, oC') :: (c2, o2) :: (c1, o1) :: rest))
    ?_ 4 ⟨0, s.heap, s.toks, oC, m₂, rfl, by omega, rfl, hI, hC, ma, F, N⟩ (by intro _; rfl)
  rintro k s' ⟨i, h', tk', oC', m', rfl, hi, rfl, hI', hC', ma', F', N'⟩
  by_cases hlt : i < 3
  · refine W.item i _ _ _ hlt hI' fun v h₂ tk₂ hPv hst₂ hk₂ => ?_
    obtain ⟨t, rfl⟩ := hPv
    have hI₂ : h₂.get? I = some (riObj (i + 1)) := hst₂
    refine set_name (I := I) (by rfl) hC' F' N' hk₂ hI₂ (offI _) hL h0 offC fun oC₃ h₃ tk₃ hC₃ F₃ N₃ hI₃ => ?_
    have e : (0 : Int) + (i : Int) = ((i : Nat) : Int) := by omega
    refine wpAny_mono (law_t (rest := (I, riObj (i + 1)) :: rest) ha (pb := i) (by omega) hy hbs zx d1 d2 hC₃ (t3 := t3) (t4 := t) ?_ ?_ B F₃ X (news_in N₃ hI₃ hL h0) T G hd hu) (fun ok s₄ hq => ?_) fun _ _ e => e
    · exact (if_neg (by decide)).trans ma'
    · exact (if_pos rfl).trans (by rw [e])
    · obtain ⟨rfl, h₄, tk₄, rfl, F₄, N₄⟩ := hq
      obtain ⟨N₅, hI₅⟩ := news_out N₄
      exact ⟨rfl, 4 - (i + 1), by omega, i + 1, h₄, tk₄, oC₃, _, rfl, hlt, rfl, hI₅, hC₃, (if_neg (by decide)).trans ma', F₄, N₅⟩
  · obtain rfl : i = 3 := by omega
    refine W.done _ _ _ hI' fun h₂ tk₂ hk₂ => ?_
    exact hR h₂ tk₂ oC' m' hC' (LCg.fr_but F' hk₂ hL h0) (LCg.news_but N' hk₂ (offI _))
/-- the outer loop -/
theorem law_out {x y : Str} {t1 t2 : Tok} {D : Value} {R : Result → Shared → Prop} (hy : y.cps.toList = x.cps.toList.reverse) (hbs : ∀ c ∈ x.cps.toList, c ≠ 92) (zx : x.length ≤ 100)
    (d1 : o1.data = .cell (some (.str x t1))) (d2 : o2.data = .cell (some (.str y t2))) (hC : LCg.NsObj oC m₂)
    (B : Below A₀ base [] h₀) (F : Fr h₀ L s.heap m) (X : (K w.params).In h₀) (N : News h₀ L s.heap ((C, oC) :: (c2, o2) :: (c1, o1) :: rest)) (T : Top q loose mean mg mb h₀)
    (G : Gd w.params mean mg mb base) (hd : dp + 16 < recursionLimit) (hu : un + 180 < cLine)
    (hI : s.heap.get? I = some (riObj 0)) (offI : ∀ (o : Obj), ∀ p ∈ (C, o) :: (c2, o2) :: (c1, o1) :: rest, p.1 ≠ I) (hL : L ≠ I) (h0 : h₀.get? I = none) (offC : ∀ p ∈ (c2, o2) :: (c1, o1) :: rest, p.1 ≠ C)
    (hR : ∀ h' tk' oC' m', LCg.NsObj oC' m' → Fr h₀ L h' m → News h₀ L h' ((C, oC') :: (c2, o2) :: (c1, o1) :: rest) → R (.ok .next) { s with heap := h', toks := tk' }) :
    codeAny (model pw w) (lawA dp un gd L fa ccd c1 c2) (.compLoop lawX 0 (.ref I) D (lawCE L fa ccd c1 c2 C)) R s := by
  have W := LCg.range_walks (prog := pw) (w := w) (A := lawA dp un gd L fa ccd c1 c2) (I := I) rfl 0 3
  refine loop_two0 (fun k s' => ∃ i h' tk' oC' m', s' = { s with heap := h', toks := tk' } ∧ i ≤ 3 ∧ k = 4 - i ∧ h'.get? I = some (riObj i) ∧ LCg.NsObj oC' m' ∧ Fr h₀ L h' m ∧ News h₀ L h' ((C, oC') :: (c2, o2) :: (c1, o1) :: rest))
    ?_ 4 ⟨0, s.heap, s.toks, oC, m₂, rfl, by omega, rfl, hI, hC, F, N⟩ (by intro _; rfl) (by intro _; rfl)
  rintro k s' ⟨i, h', tk', oC', m', rfl, hi, rfl, hI', hC', F', N'⟩
  by_cases hlt : i < 3
  · refine W.item i _ _ _ hlt hI' fun v h₂ tk₂ hPv hst₂ hk₂ => ?_
    obtain ⟨t, rfl⟩ := hPv
    have hI₂ : h₂.get? I = some (riObj (i + 1)) := hst₂
    refine set_name (I := I) (by rfl) hC' F' N' hk₂ hI₂ (offI _) hL h0 offC fun oC₃ h₃ tk₃ hC₃ F₃ N₃ hI₃ => ?_
    have e : (0 : Int) + (i : Int) = ((i : Nat) : Int) := by omega
    have Nin := news_in N₃ hI₃ hL h0
    refine wpAny_mono (law_r1 (rest := (I, riObj (i + 1)) :: rest) hC₃ B F₃ X Nin T G hd hu) (fun xv s₄ hq => wpAny_mono hq (fun it2 s₅ hq => ?_) fun _ _ e => e) fun _ _ e => e
    obtain ⟨I2, h₄, tk₄, rfl, rfl, hI2, F₄, N₄, off2, hL2, hz2⟩ := hq
    have offI2 : ∀ (o : Obj), ∀ p ∈ (C, o) :: (c2, o2) :: (c1, o1) :: (I, riObj (i + 1)) :: rest, p.1 ≠ I2 := by
      intro o p hp
      rcases List.mem_cons.mp hp with rfl | hp
      · exact off2 (C, oC₃) List.mem_cons_self
      · exact off2 p (List.mem_cons_of_mem _ hp)
    have offC2 : ∀ p ∈ (c2, o2) :: (c1, o1) :: (I, riObj (i + 1)) :: rest, p.1 ≠ C := by
      intro p hp
      simp only [List.mem_cons] at hp
      rcases hp with rfl | rfl | rfl | hp
      · exact offC _ (by simp)
      · exact offC _ (by simp)
      · exact fun q => offI oC _ List.mem_cons_self q.symm
      · exact offC p (by simp [hp])
    have fin : ∀ sx hx tkx, sx = ({ s with heap := hx, toks := tkx } : Shared) → hx.get? I2 = some (riObj 0) → Fr h₀ L hx m → News h₀ L hx ((C, oC₃) :: (c2, o2) :: (c1, o1) :: (I, riObj (i + 1)) :: rest) →
        codeAny (model pw w) (lawA dp un gd L fa ccd c1 c2) (.compLoop lawX 1 (.ref I2) D (lawCE L fa ccd c1 c2 C)) (fun r s' => match r with
          | .ok f => ∃ k, k < 4 - i ∧ ∃ i h' tk' oC' m', s' = { s with heap := h', toks := tk' } ∧ i ≤ 3 ∧ k = 4 - i ∧ h'.get? I = some (riObj i) ∧ LCg.NsObj oC' m' ∧ Fr h₀ L h' m ∧ News h₀ L h' ((C, oC') :: (c2, o2) :: (c1, o1) :: rest)
          | .error e => cameBackBy (model pw w) (lawA dp un gd L fa ccd c1 c2) (lawCE L fa ccd c1 c2 C) (notedBy (model pw w) (lawA dp un gd L fa ccd c1 c2) (lawCE L fa ccd c1 c2 C) fun e s' => R (.error e) s') e s') sx := by
      rintro sx hx tkx rfl hI5 F₅ N₅
      refine law_in (pa := i) (t3 := t) (by omega) hy hbs zx d1 d2 hC₃ ((if_pos rfl).trans (by rw [e])) B F₅ X N₅ T G hd hu hI5 offI2 hL2 hz2 offC2 fun h₆ tk₆ oC₆ m₆ hC₆ F₆ N₆ => ?_
      obtain ⟨N₇, hI₇⟩ := news_out N₆
      exact ⟨4 - (i + 1), by omega, i + 1, h₆, tk₆, oC₆, m₆, rfl, hlt, rfl, hI₇, hC₆, F₆, N₇⟩
    have W2 := LCg.range_walks (prog := pw) (w := w) (A := lawA dp un gd L fa ccd c1 c2) (I := I2) rfl 0 3
    refine wpAny_runOwn (start_two1 (fin _ _ _ rfl hI2 F₄ N₄) (W2.self 0 _ _ _ hI2 (fin _ _ _ rfl hI2 F₄ N₄)))
  · obtain rfl : i = 3 := by omega
    refine W.done _ _ _ hI' fun h₂ tk₂ hk₂ => ?_
    exact hR h₂ tk₂ oC' m' hC' (LCg.fr_but F' hk₂ hL h0) (LCg.news_but N' hk₂ (offI _))
end
end Mine
end
section
open Lean Meta Elab PySem PySem.W PyProof.Rows PySem.Calls
set_option maxRecDepth 100000
set_option maxHeartbeats 0
set_option Elab.async false
set_option linter.unusedVariables false
namespace Mine
theorem fillAU : (fun (_ : Params → Frag) (_ : OpenLaw) => True) K rw1 := by k_fill; trivial
section
variable {w : World} {mean : ExcName → Option Value} {mg mb : Str → Option Value} {dp un : Nat} {gd : Option (List Code)} {A₀ : Around} {base h₀ : Heap} {L fa : Addr} {ccd : Value} {m : Str → Option Value} {s : Shared} {E : Value → Shared → Prop} {Q : Value → Shared → Prop} {c1 c2 : Nat} {o1 o2 : Obj}
theorem law_c {x y : Str} {t1 t2 : Tok} (hy : y.cps.toList = x.cps.toList.reverse) (hbs : ∀ c ∈ x.cps.toList, c ≠ 92) (zx : x.length ≤ 100)
    (d1 : o1.data = .cell (some (.str x t1))) (d2 : o2.data = .cell (some (.str y t2)))
    (B : Below A₀ base [] h₀) (F : Fr h₀ L s.heap m) (X : (K w.params).In h₀) (N : News h₀ L s.heap [(c2, o2), (c1, o1)]) (T : Top q loose mean mg mb h₀)
    (G : Gd w.params mean mg mb base) (hd : dp + 16 < recursionLimit) (hu : un + 180 < cLine)
    (hret : ∀ D h' tk', Fr h₀ L h' m → News h₀ L h' [(D, LCg.lst []), (c2, o2), (c1, o1)] → Q (.ref D) { s with heap := h', toks := tk' }) :
    wpAny (model pw w) (lawA dp un gd L fa ccd c1 c2) (eval lawL2 (lawEnv L fa ccd c1 c2)) Q E s := by
  rw [lawL2_eq, eval_ListComp]
  refine wpAny_comprehension_free (use := none) rfl (by intro _; rfl) comp_cl rfl (by decide) (wpAny_mono (law_r0 B F X N T G hd hu) (fun xv s₁ h₁ => wpAny_mono h₁ (fun it s₂ h₂ => ?_) fun _ _ e => e) fun _ _ e => e)
  obtain ⟨I, g, tk, rfl, rfl, hI, F₂, N₂, off, hL, h0⟩ := h₂
  refine wpAny_newObj_type (wpAny_newFunctionEnv (by decide) (by intro y hy; simp at hy) (fun h₁ hns₁ hsb₁ => ?_) rfl)
  dsimp only at hns₁ hsb₁ ⊢
  generalize hH2 : g.push { cls := .type "list", dict := none, data := .seq ([] : List Value).toArray } = H2 at hns₁ hsb₁ ⊢
  have hC : H2.objs.size = g.objs.size + 1 := by rw [← hH2, Heap.size_push]
  have hDC : g.objs.size ≠ H2.objs.size := by rw [hC]; exact Nat.ne_of_lt (Nat.lt_succ_self _)
  have hlt : ∀ b o, g.get? b = some o → b ≠ H2.objs.size ∧ b ≠ g.objs.size := fun b o e => by
    have := Heap.lt_size e
    rw [hC]
    exact ⟨Nat.ne_of_lt (Nat.lt_succ_of_lt this), Nat.ne_of_lt this⟩
  have old : ∀ b o, g.get? b = some o → h₁.get? b = some o := fun b o e => hsb₁.extBut b o (hlt b o e).1 (Heap.get?_push_of_some _ (hH2 ▸ Heap.get?_push_of_some _ e))
  have hacc : h₁.get? g.objs.size = some (LCg.lst []) := hsb₁.extBut _ _ hDC (Heap.get?_push_of_some _ (hH2 ▸ Heap.get?_push_size _ rfl))
  obtain ⟨oC, heC, hoC⟩ := LCg.ns_obj hns₁
  have hgL : g.get? L ≠ none := by obtain ⟨o, _, _, e, _⟩ := F₂.ns; rw [e]; exact fun q => by cases q
  obtain ⟨oL, heL⟩ : ∃ o, g.get? L = some o := by obtain ⟨o, _, _, e, _⟩ := F₂.ns; exact ⟨o, e⟩
  have fresh₀ : ∀ a, g.objs.size ≤ a → h₀.get? a = none := fun a ha => by
    cases e : h₀.get? a with
    | none => rfl
    | some o' => exact absurd (Heap.lt_size (F₂.keep a o' e)) (Nat.not_lt.mpr ha)
  have hC₀ := fresh₀ H2.objs.size (by rw [hC]; exact Nat.le_succ _)
  have hD₀ := fresh₀ g.objs.size (Nat.le_refl _)
  have hLn := hlt L oL heL
  have N₃ : News h₀ L h₁ [(H2.objs.size, oC), (c2, o2), (c1, o1), (g.objs.size, LCg.lst [])] := fun p hp => by
    simp only [List.mem_cons, List.not_mem_nil, or_false] at hp
    rcases hp with rfl | rfl | rfl | rfl
    · exact ⟨heC, Ne.symm hLn.1, hC₀⟩
    · exact ⟨old _ _ (N₂ _ (by simp)).1, (N₂ (c2, o2) (by simp)).2⟩
    · exact ⟨old _ _ (N₂ _ (by simp)).1, (N₂ (c1, o1) (by simp)).2⟩
    · exact ⟨hacc, Ne.symm hLn.2, hD₀⟩
  have hIn := hlt I _ hI
  have offI : ∀ (o : Obj), ∀ p ∈ [(H2.objs.size, o), (c2, o2), (c1, o1), (g.objs.size, LCg.lst [])], p.1 ≠ I := fun o p hp => by
    simp only [List.mem_cons, List.not_mem_nil, or_false] at hp
    rcases hp with rfl | rfl | rfl | rfl
    · exact Ne.symm hIn.1
    · exact off _ (by simp)
    · exact off _ (by simp)
    · exact Ne.symm hIn.2
  have offC : ∀ p ∈ [(c2, o2), (c1, o1), (g.objs.size, LCg.lst [])], p.1 ≠ H2.objs.size := fun p hp => by
    simp only [List.mem_cons, List.not_mem_nil, or_false] at hp
    rcases hp with rfl | rfl | rfl
    · exact (hlt _ _ (N₂ (c2, o2) (by simp)).1).1
    · exact (hlt _ _ (N₂ (c1, o1) (by simp)).1).1
    · exact hDC
  have W := LCg.range_walks (prog := pw) (w := w) (A := lawA dp un gd L fa ccd c1 c2) (I := I) rfl 0 3
  have loop : ∀ s₃ : Shared, s₃ = ({ s with heap := h₁, toks := tk + ([] : List (Str × Value)).length } : Shared) →
      codeAny (model pw w) (lawA dp un gd L fa ccd c1 c2) (.compLoop lawX 0 (.ref I) (.ref g.objs.size) (lawCE L fa ccd c1 c2 H2.objs.size)) (compPost (model pw w) (lawA dp un gd L fa ccd c1 c2) E none Q (.ref g.objs.size) H2.objs.size) s₃ := by
    rintro s₃ rfl
    refine law_out hy hbs zx d1 d2 hoC B (F₂.keeps old) X N₃ T G hd hu (old _ _ hI) offI hL h0 offC fun h₄ tk₄ oC₄ m₄ hC₄ F₄ N₄ => ?_
    refine ⟨m₄, hC₄.ns (N₄ _ List.mem_cons_self).1, fun h₅ hs₅ => hret g.objs.size h₅ tk₄ (F₄.change hs₅ (Ne.symm hLn.1) hC₀) fun p hp => ?_⟩
    have hp' : p ∈ [(c2, o2), (c1, o1), (g.objs.size, LCg.lst [])] := by
      simp only [List.mem_cons, List.not_mem_nil, or_false] at hp ⊢
      rcases hp with h | h | h
      · exact .inr (.inr h)
      · exact .inl h
      · exact .inr (.inl h)
    have z := N₄ p (List.mem_cons_of_mem _ hp')
    exact ⟨hs₅.extBut _ _ (offC p hp') z.1, z.2⟩
  exact codeAny_compStart_list (loop _ rfl) (W.self 0 _ _ _ (old _ _ hI) (loop _ rfl))
end
end Mine
end
section
open Lean Meta Elab PySem PySem.W PyProof.Rows
set_option maxRecDepth 100000
set_option maxHeartbeats 0
set_option Elab.async false
set_option linter.unusedVariables false
namespace Mine
theorem fillAV : (fun (_ : Params → Frag) (_ : OpenLaw) => True) K rw1 := by k_fill; trivial
local macro_rules | `(tactic| walk_at "eval ListComp") => `(tactic| (k_here; k_dflt (refine' law_c ?ry ?rs ?rz ?r1 ?r2 ?rB ?rF ?rX ?rN ?rT ?rG ?rd ?ru ?_; (case rN => k_asm); (case r1 => assumption); (case r2 => assumption); (case ry => assumption); (case rs => assumption); (case rz => assumption); (case rB => k_asm); (case rF => k_asm); (case rX => k_asm); (case rT => k_asm); (case rG => assumption); (case rd => ktr_room); (case ru => ktr_units); k_whole); intro D9 h9 tk9 F9 N9; (try dsimp only)))
section
variable {w : World} {mean : ExcName → Option Value} {mg mb : Str → Option Value} {dp un : Nat} {gd : Option (List Code)} {A₀ : Around} {base h₀ : Heap} {L fa : Addr} {ccd : Value} {m : Str → Option Value} {s : Shared} {E : Value → Shared → Prop} {Q : Flow → Shared → Prop} {c1 c2 : Nat} {o1 o2 : Obj}
theorem law_2 {x y : Str} {t1 t2 : Tok} (hy : y.cps.toList = x.cps.toList.reverse) (hbs : ∀ c ∈ x.cps.toList, c ≠ 92) (zx : x.length ≤ 100)
    (d1 : o1.data = .cell (some (.str x t1))) (d2 : o2.data = .cell (some (.str y t2)))
    (B : Below A₀ base [] h₀) (F : Fr h₀ L s.heap m) (X : (K w.params).In h₀) (N : News h₀ L s.heap [(c2, o2), (c1, o1)]) (T : Top q loose mean mg mb h₀)
    (G : Gd w.params mean mg mb base) (hd : dp + 16 < recursionLimit) (hu : un + 180 < cLine)
    (hret : ∀ h' tk', Fr h₀ L h' m → Q (.ret (.bool true)) { s with heap := h', toks := tk' }) :
    wpAny (model pw w) (lawA dp un gd L fa ccd c1 c2) (execs [lawP2] (lawEnv L fa ccd c1 c2)) Q E s := by
  unfold lawP2
  k_steps
  all_goals exact hret _ _ (by k_asm)
theorem codes_ok (ns : List Int) : (∀ c ∈ ((ns ++ [0, 6, 2]).take 6).map sgnC, c < 256) ∧ (∀ c ∈ ((ns ++ [0, 6, 2]).take 6).map sgnC, c ≠ 92) ∧ (((ns ++ [0, 6, 2]).take 6).map sgnC).length ≤ 6 ∧ 0 < (((ns ++ [0, 6, 2]).take 6).map sgnC).length := by
  refine ⟨fun c hc => ?_, fun c hc => ?_, ?_, ?_⟩
  · obtain ⟨n, _, rfl⟩ := List.mem_map.mp hc
    exact sgn_lt n
  · obtain ⟨n, _, rfl⟩ := List.mem_map.mp hc
    exact sgn_bs n
  · rw [List.length_map, List.length_take]; omega
  · rw [List.length_map, List.length_take, List.length_append]
    simp only [List.length_cons, List.length_nil]; omega
theorem law_b {l : Addr} {vs : List Value} {ns : List Int} (hl : h₀.IsList l vs.toArray) (hi : IntsAre vs ns) (hn : ns.length ≤ 63) (d1 : o1.data = .cell none) (d2 : o2.data = .cell none) (hc : c1 ≠ c2)
    (B : Below A₀ base [] h₀) (F : Fr h₀ L s.heap (fun y => if y = "script" then some (.ref l) else none)) (X : (K w.params).In h₀) (N : News h₀ L s.heap [(c2, o2), (c1, o1)]) (T : Top q loose mean mg mb h₀)
    (G : Gd w.params mean mg mb base) (hd : dp + 20 < recursionLimit) (hu : un + 200 < cLine)
    (hret : ∀ h' tk' m', Fr h₀ L h' m' → Q (.ret (.bool true)) { s with heap := h', toks := tk' }) :
    wpG (model pw w) (lawA dp un gd L fa ccd c1 c2) (execs flaw_b (lawEnv L fa ccd c1 c2)) Q E s := by
  rw [law_body]
  obtain ⟨k1, k2, k3, k4⟩ := codes_ok ns
  refine wpG_execs_cons (wpG.of (law_0 hl hi hn d1 d2 hc B F X N T (by omega) (by omega) fun t h₁ tk₁ o1' e1 F1 N1 => ?_))
  generalize hx : ((ns ++ [0, 6, 2]).take 6).map sgnC = codes at *
  refine wpG_execs_cons ?_
  show wpG _ _ (exec (.Assign [.Name "mirror" _] (.Call (.Name "_law_mirror" _) _ [] _) _) _) _ _ _
  refine wpG_Assign_Name (wpG_Call ?_)
  k_steps
  refine wpG_callWith_K (K := K w.params) (by k_is) (wpG.of ?_)
  k_steps
  have cl : (⟨codes.toArray⟩ : Str).length = codes.length := by show codes.toArray.size = _; simp
  refine mirror_c (x := ⟨codes.toArray⟩) k1 (by omega) (by omega) B F1 X N1 T rfl (by omega) (by omega) fun t' h₂ tk₂ F2 N2 => ?_
  k_steps
  refine wpG.of ?_
  exact law_2 (x := ⟨codes.toArray⟩) (y := ⟨codes.reverse.toArray⟩) rfl k2 (by omega) e1 (by assumption) B (by assumption) X (by assumption) T G (by omega) (by omega) fun h' tk' F' => hret _ _ _ F'
end
end Mine
end
section
open PySem PySem.W PyProof.Rows
set_option Elab.async false
set_option maxRecDepth 100000
set_option maxHeartbeats 0
set_option linter.unusedVariables false
namespace Mine
theorem KA_ok : ∀ P, KA = (K P).map (·.1) := fun _ => by kernel_rfl
end Mine
end
section
open Lean Meta Elab PySem PySem.W PyProof.Rows PySem.Spec PySem.Calls
set_option maxRecDepth 100000
set_option maxHeartbeats 0
set_option Elab.async false
set_option linter.unusedVariables false
namespace Mine
theorem fillAM : (fun (_ : Params → Frag) (_ : OpenLaw) => True) K rw1 := by k_fill; trivial
theorem post_ok (args : List WData) : rw1.row.toRowW.claim.post args (.bool true) args = true := by
  show (WShape.has rw1.row.toRowW.records (WData.bool true) .bool && WTm.holds rw1.row.toRowW.records (.eq .res (.lit (.bool true))) { args := args, res := some (.bool true), after := args }) = true
  have h : (WTm.eq .res (.lit (.bool true))).value rw1.row.toRowW.records { args := args, res := some (.bool true), after := args } = some (.bool (true == true)) :=
    w_eq_bool (by simp [WTm.value]) (by simp [WTm.value])
  unfold WTm.holds
  rw [h]
  simp [WShape.has, WShape.arms]
theorem top_go : ∀ (w : World) (s₀ s₁ : Shared) (mg mb : Str → Option Value), Ground q loose rw1.row.toRowW.records (XL q []) w s₀ mg mb s₁.heap → Hook.says (kHook K KA KA_ok) w s₁.heap → ∀ (a : Addr) (o : Obj) (pm cd doc dV kV : Value), s₁.heap.get? a = some o →
    o.data = .func { docDef lawRec.name lawRec.params lawRec.body lawRec.scope pm cd doc with defaults := dV, kwdefaults := kV } → s₁.heap.CodeRec cd lawRec.name → Dflts mg s₁.heap lawRec.params [] dV kV → mg lawRec.name = some (.ref a) → s₁.gens = #[] →
    ∀ (args : List WData) (vals : List Value) (as : List Addr), rw1.row.toRowW.claim.pre args = true → WData.layableAll args = true → ReadsAllW rw1.row.toRowW.records (classAt s₀.heap) s₁.heap vals args as → WellAll w.params s₁.heap vals args → (∀ a ∈ as, (a == sysModules) = false) →
      wpG (model rw1.row.toRowW.prog w) callerA (call (.ref a) vals) (fun v s' => GoodWG rw1.row.toRowW.claim (classAt s₀.heap) (ExcName.means s₀.heap) args s₁ (.ok (.ret v)) s')
        (fun e s' => GoodWG rw1.row.toRowW.claim (classAt s₀.heap) (ExcName.means s₀.heap) args s₁ (.error e) s') s₁ := by
  k_fill
  intro w s₀ s₁ mg mb G Y fa o pm cd doc dV kV ho hd hcd hD hmg hg args vals as hpre hlay hrd hwl hlo
  have KX := kIn_of Y
  have X := (Ground.X G).1
  have V := (Ground.X G).2
  refine Ground.open G ?_
  intro T B D TE TW
  try (refine guard_noD D (by decide +kernel) ?_; clear D)
  obtain ⟨_, _, M⟩ := bmod_of_top T
  have TA := at_of_top T
  try (obtain ⟨_, _, he, B0⟩ := based_of_top T rfl hmg ho hd; have he' : cd = _ := he; subst he'; clear he)
  clear hmg
  wrow_args hpre hlay hrd hwl hlo
  rename IntsAre _ _ => hI
  rename Heap.IsList _ _ _ => hL
  rename (¬ ((_ : Int) < _)) => hlen
  rename_i ns _ _ _ _ _ _ _ l vs _ _ _ _ _ _
  have hT : Top q loose (ExcName.means s₀.heap) mg mb s₁.heap := by
    have e : looseW q loose = loose := by decide +kernel
    rw [e] at T; exact T
  have he := Dflts.none hD rfl
  subst he
  have he := Dflts.noKw hD
  subst he
  refine wpG_call ?_
  refine codeG_call_cells (fo := o) (body := flaw_b) (scope := flaw_s) (params := flaw_p) (name := "law") (qual := "law") (binds := [("script", .ref l)]) (by decide) ho hd hT.nolimit hcd (BindsTo.of_eq rfl) (kindsX (by rfl)) (by decide) ?_ rfl rfl rfl
  intro L' h₁ tk cells F N Y'
  have N' : ∃ o1 o2 : Obj, News s₁.heap L' h₁ [(L' + 1 + 1, o2), (L' + 1, o1)] ∧ o1.data = .cell none ∧ o2.data = .cell none := by
    rw [law_cl] at Y'
    cases Y' with
    | cons d2 r =>
      cases r with
      | cons d1 r =>
        cases r
        exact ⟨_, _, N, d1, d2⟩
  obtain ⟨o1, o2, N2, d1, d2⟩ := N'
  have hlen' : ns.length ≤ 63 := by omega
  exact law_b (l := l) (vs := vs) (ns := ns) (h₀ := s₁.heap) (base := s₁.heap) (mean := ExcName.means s₀.heap) (mg := mg) (mb := mb) hL hI hlen' d1 d2 (Nat.ne_of_lt (Nat.lt_succ_self _)) (below_caller _) F KX N2 hT ⟨KX, hT⟩ (by decide) (by decide) fun h' tk' m' F' =>
    GoodW.toG ⟨.inl ⟨.bool true, .bool true, [], rfl, fun _ => rfl, .bool true, post_ok _, fun _ => ⟨.nil, fun _ h => nomatch h⟩⟩, F'.keep, rfl, hg⟩
end Mine
end
section
open Lean Meta Elab PySem PySem.W PyProof.Rows PySem.Calls
set_option maxRecDepth 100000
set_option maxHeartbeats 0
set_option Elab.async false
set_option linter.unusedVariables false
namespace Mine
/-- looks at the stack once: a tree that runs where no decoder stands on it, a plain answer elsewhere -/
def checked {α : Type} (t : Sem α) (d : α) : Sem α := .stack fun st => if st.all (fun x => Clean x.1) = true then t else pure d
section
variable {α : Type} {M : Model} {A : Around} {E : Value → Shared → Prop} {s : Shared}
theorem checked_wp {t : Sem α} {d : α} {Q : α → Shared → Prop} (h : wpG M A t Q E s) (hd : Q d s) : wpAny M A (checked t d) Q E s := fun Γ p hΓ => by
  show Sem.wp M Γ (if (((Γ.code, p) :: Γ.below).all fun x => Clean x.1) = true then t else pure d) _ _ p s
  by_cases hc : (((Γ.code, p) :: Γ.below).all fun x => Clean x.1) = true
  · rw [if_pos hc]
    have := List.all_eq_true.mp hc
    exact h Γ p hΓ ⟨this (Γ.code, p) List.mem_cons_self, fun x hx => this x (List.mem_cons_of_mem _ hx)⟩
  · rw [if_neg hc]
    exact hd
end
section
variable {den : Code → Sem PySem.Fin} {prog : Program} {w : World} {s s' : Shared} {o : Outcome}
theorem peel {t : Sem PySem.Fin} {d : PySem.Fin} (hz : s.asleep) {n : Nat} (h : schedN den prog w n (.single s ⟨checked t d, .builtin "claim.caller" {}, default, []⟩) = .halted o s') :
    ∃ n', schedN den prog w n' (.single s ⟨t, .builtin "claim.caller" {}, default, []⟩) = .halted o s' := by
  cases n with
  | zero => cases h
  | succ n =>
    refine ⟨n, ?_⟩
    have hc : (([(Code.builtin "claim.caller" {}, (default : Pos))] : List (Code × Pos)).all fun x => Clean x.1) = true := by decide
    have hs : step den prog w s ⟨checked t d, .builtin "claim.caller" {}, default, []⟩ = .go s ⟨t, .builtin "claim.caller" {}, default, []⟩ := by
      show Step.go s ⟨if (([(Code.builtin "claim.caller" {}, (default : Pos))] : List (Code × Pos)).all fun x => Clean x.1) = true then t else pure d, .builtin "claim.caller" {}, default, []⟩ = _
      rw [if_pos hc]
    have e := sstep_single den prog w s ⟨checked t d, .builtin "claim.caller" {}, default, []⟩ (by rfl) hz
    rw [hs] at e
    rcases e with e | e
    · simp only [schedN] at h
      rw [e] at h
      exact h
    · cases e
end
end Mine
end
section
open Lean Meta Elab PySem PySem.W PyProof.Rows PySem.Calls PySem.Spec
set_option maxRecDepth 100000
set_option maxHeartbeats 0
set_option Elab.async false
set_option linter.unusedVariables false
namespace Mine
theorem checked_G {α : Type} {M : Model} {A : Around} {E : Value → Shared → Prop} {s : Shared} {t : Sem α} {d : α} {Q : α → Shared → Prop} (h : wpAny M A (checked t d) Q E s) : wpG M A t Q E s := fun Γ p hΓ hc => by
  have := h Γ p hΓ
  have hc' : (((Γ.code, p) :: Γ.below).all fun x => Clean x.1) = true := List.all_eq_true.mpr fun x hx => by
    rcases List.mem_cons.mp hx with rfl | hx
    · exact hc.1
    · exact hc.2 x hx
  have e : Sem.wp M Γ (if (((Γ.code, p) :: Γ.below).all fun x => Clean x.1) = true then t else pure d) (fun a _ s' => Q a s') (fun e _ s' => E e s') p s := this
  rw [if_pos hc'] at e
  exact e
theorem checked_map {α β : Type} {M : Model} {A : Around} {E : Value → Shared → Prop} {s : Shared} {t : Sem α} {d : α} {t' : Sem β} {d' : β} {Q : α → Shared → Prop} {Q' : β → Shared → Prop} (h : wpAny M A (checked t d) Q E s) (hd : Q d s → Q' d' s) (ht : wpG M A t Q E s → wpG M A t' Q' E s) : wpAny M A (checked t' d') Q' E s := fun Γ p hΓ => by
  show Sem.wp M Γ (if (((Γ.code, p) :: Γ.below).all fun x => Clean x.1) = true then t' else pure d') _ _ p s
  by_cases hc : (((Γ.code, p) :: Γ.below).all fun x => Clean x.1) = true
  · rw [if_pos hc]
    have := List.all_eq_true.mp hc
    exact ht (checked_G h) Γ p hΓ ⟨this (Γ.code, p) List.mem_cons_self, fun x hx => this x (List.mem_cons_of_mem _ hx)⟩
  · rw [if_neg hc]
    have e : Sem.wp M Γ (if (((Γ.code, p) :: Γ.below).all fun x => Clean x.1) = true then t else pure d) (fun a _ s' => Q a s') (fun e _ s' => E e s') p s := h Γ p hΓ
    rw [if_neg hc] at e
    exact hd e
noncomputable abbrev realTree (name : Str) (vs : List Value) : Sem PySem.Fin := do
  match ← nsGet mainNs name with
  | some f => do ret (← PySem.call f vs)
  | none => unsupported "claim.caller:no-such-global"
example (name : Str) : callStub name = fun vs => ⟨realTree name vs, .builtin "claim.caller" {}, default, []⟩ := rfl
theorem holds_checked {r : OpenRow} {q : Program} {loose : List Str} {Xt : Shared → Bool} {XP : (Str → Option Value) → Heap → Prop} {α : Type} {Yf : Shared → α} {Ya : World → α} {YP : World → Heap → Prop} {d : DefRec} {kwd : List (Str × PySem.Expr)} {N : Nat}
    (left : LeftO r.prog q loose Xt Yf Ya N) (hY : ∀ w s, Yf s = Ya w → YP w s.heap) (hYk : ∀ w h h', YP w h → (∀ b o, h.get? b = some o → h'.get? b = some o) → YP w h')
    (hX : ∀ s, Xt s = true → XP (s.heap.nsMap mainGlobals) s.heap) (hXk : ∀ mg h h', XP mg h → (∀ b o, h.get? b = some o → h'.get? b = some o) → XP mg h')
    (hdef : defOf q r.name = some (d, kwd)) (hp : r.prog.theDef r.name = some (d.params, d.body, d.scope)) (hk : kwWritten? d.params.kwonlyargs d.params.kw_defaults = some kwd) (hRf : ∀ s, Xt s = true → RecFacts r.records s.heap) (hwr : (!r.writes || r.records.isEmpty) = true)
    (k1 : r.wellSaid = true) (ok : (chainsOk q && opensWell r.prog && (frees r.toRowW && r.within.isEmpty)) = true) (hb : r.prog.bare) (hw : r.toRowW.promised)
    (gd : ∀ cl mean args (s₁ : Shared), s₁.gens = #[] → GoodWG r.toRowW.claim cl mean args s₁ (.ok (.ret (.bool true))) s₁)
    (call : ∀ (w : World) (s₀ s₁ : Shared) (mg mb : Str → Option Value), Ground q loose r.records XP w s₀ mg mb s₁.heap → YP w s₁.heap → ∀ (a : Addr) (o : Obj) (pm cd doc dV kV : Value), s₁.heap.get? a = some o →
      o.data = .func { docDef d.name d.params d.body d.scope pm cd doc with defaults := dV, kwdefaults := kV } → s₁.heap.CodeRec cd d.name → Dflts mg s₁.heap d.params kwd dV kV → mg d.name = some (.ref a) → s₁.gens = #[] →
      ∀ (args : List WData) (vals : List Value) (as : List Addr), r.toRowW.claim.pre args = true → WData.layableAll args = true → ReadsAllW r.records (classAt s₀.heap) s₁.heap vals args as → WellAll w.params s₁.heap vals args → (∀ a ∈ as, (a == sysModules) = false) →
        wpG (model r.prog w) callerA (PySem.call (.ref a) vals) (fun v s' => GoodWG r.toRowW.claim (classAt s₀.heap) (ExcName.means s₀.heap) args s₁ (.ok (.ret v)) s')
          (fun e s' => GoodWG r.toRowW.claim (classAt s₀.heap) (ExcName.means s₀.heap) args s₁ (.error e) s') s₁) : r.Holds := by
  have H : r.toRowW.claim.HoldsOpenBy (fun vs => ⟨checked (realTree r.name vs) (.done (.ret (.bool true))), .builtin "claim.caller" {}, default, []⟩) (if r.pinned then [r.name] else []) r.keeps r.writes :=
    open_anyG (r := r.toRowW) (run := fun f vs => checked (PySem.call f vs) (.bool true)) (tree := fun vs => checked (realTree r.name vs) (.done (.ret (.bool true)))) left hY hYk hX hXk hRf hwr ok hb hw
      (fun vs w s mg f Q E hg hf h => checked_map h (fun x => x) fun h => wpG_step (wpAny_nsGet hg (by rw [hf]; exact wpG_bind (wpG_mono h (fun _ _ x => wpG_pure x) fun _ _ x => x))))
      (fun w s hg G n hn => by
        obtain rfl : n = r.name := by split at hn <;> simp_all
        exact pinned_of_view hg G hdef hp hk)
      fun w s₀ s₁ mg mb G Y args vs as hpre hlay L low => by
        obtain ⟨a, o, pm, cd, doc, dV, kV, h1, h2, h3, h4, h5⟩ := G.fn hdef
        exact ⟨.ref a, h1, checked_wp (call w s₀ s₁ mg mb G Y a o pm cd doc dV kV h2 h3 h4 h5 (defOf_name hdef ▸ h1) L.gens args vs as hpre hlay L.reads L.well (L.low low)) (gd _ _ _ _ L.gens)⟩
  have hch : chainsOk q = true := by
    obtain ⟨ok, _⟩ := Bool.and_eq_true_iff.mp ok
    exact (Bool.and_eq_true_iff.mp ok).1
  refine ⟨k1, hw, H.1, H.2.1, fun w => ⟨(H.2.2 w).1, fun s hs => ?_⟩⟩
  obtain ⟨s₀, hf, hg0, s₁, hT, hd, hr1, hr2, hc⟩ := (H.2.2 w).2 s hs
  obtain ⟨s₀', hf', _, s₂, hT2, hz2, _⟩ := (left.behind (XP := XP) hX hch w).2 s hs
  obtain rfl : s₀' = s₀ := Option.some.inj (hf'.symm.trans hf)
  have hz : s₁.asleep := Shared.asleep_of_life (hT.2.1.trans hT2.2.1.symm) hz2
  refine ⟨s₀', hf, hg0, s₁, hT, hd, hr1, hr2, ?_⟩
  intro args hpre hlay ord hord
  obtain ⟨vs, s₃, hlaid, n, o, s', hs', rest⟩ := hc args hpre hlay ord hord
  have hz3 : s₃.asleep := Shared.asleep_of_life (layAllW_rest _ _ _ hlaid).2.2.2 hz
  obtain ⟨n', hn'⟩ := peel hz3 hs'
  exact ⟨vs, s₃, hlaid, n', o, s', hn', rest⟩
end Mine
end
section
open Lean Meta Elab PySem PySem.W PyProof.Rows PySem.Calls PySem.Spec
set_option Elab.async false
set_option maxRecDepth 100000
set_option maxHeartbeats 0
set_option linter.unusedVariables false
namespace Mine
theorem run_ok (w : World) : (openT (denote treeTable) stepT stepOk fin1 pw w 8000 2000).map (fun c => (openSeen q loose (importedModules pw.main.body) (fun s => xlAt q [] s && recOk (RowW.records rw1.row.toRowW) s) true c.abs, KA.map (getT c))) = some (openGood q loose, (K w.params).map fun x => some x.2) := by
  rw [PySem.W.Fast.te10156331382660048174, PySem.W.Fast.te11892475500146522536, PySem.W.Fast.te14364793385576792824, PySem.W.Fast.te4187177175401517315, PySem.W.Fast.te6613529449190102663]
  kernel_rfl
theorem ws : rw1.wellSaid = true := by
  rw [PySem.W.Fast.te9446332074065402090]
  kernel_rfl
theorem ok_ok : (chainsOk q && opensWell rw1.row.toRowW.prog && (frees rw1.row.toRowW && rw1.row.toRowW.within.isEmpty)) = true := by decide +kernel
theorem good0 (cl : Str → Option Addr) (mean : ExcName → Option Value) (args : List WData) (s₁ : Shared) (hg : s₁.gens = #[]) : GoodWG rw1.row.toRowW.claim cl mean args s₁ (.ok (.ret (.bool true))) s₁ :=
  GoodW.toG ⟨.inl ⟨.bool true, .bool true, [], rfl, fun _ => rfl, .bool true, post_ok _, fun _ => ⟨.nil, fun _ h => nomatch h⟩⟩, fun _ _ e => e, rfl, hg⟩
theorem hd : rw1.Holds := by
  refine holds_law ws fun said => ?_
  refine holds_checked (q := q) (loose := loose) (Xt := fun s => xlAt q [] s && recOk (RowW.records rw1.row.toRowW) s) (XP := XL q []) (Yf := Hook.obs (kHook K KA KA_ok)) (Ya := Hook.val (kHook K KA KA_ok)) (YP := Hook.says (kHook K KA KA_ok)) (N := 8000)
    (left_of (M := 2000) (by decide) run_ok) (Hook.of (kHook K KA KA_ok)) (Hook.keeps (kHook K KA KA_ok)) (fun s e => xl_of s (Bool.and_eq_true_iff.mp e).1) XL.keeps (by kernel_rfl) (by kernel_rfl) (by kernel_rfl) (fun s e => recFacts_of (Bool.and_eq_true_iff.mp e).2) (by rfl) said ok_ok ⟨rfl, rfl, rfl, rfl, rfl, by decide +kernel⟩ ?hw good0 top_go
  w_witness2
end Mine
end
end
end
end
set_option maxRecDepth 100000 in
set_option maxHeartbeats 0 in
theorem PySem.Challenge.cw_op0201_01_holds : PySem.Challenge.rw_op0201_01.Holds := by
  exact Mine.hd
