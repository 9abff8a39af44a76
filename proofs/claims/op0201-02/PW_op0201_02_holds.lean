import PyProof.Rows.All
import Wide.All
import OpenK.AllK
import Wide.FinOn
import PySem.Challenge.RW_op0201_02
set_option Elab.async false
set_option compiler.extract_closed false
section
open PySem PySem.W PyProof.Rows
set_option Elab.async false
set_option maxRecDepth 100000
namespace Mine

noncomputable def goT (st : SharedT → Thread → Option (SharedT × Thread)) (fin : Thread → Option Bool) (n : Nat) : SharedT → Thread → Option SharedT :=
  Nat.rec (motive := fun _ => SharedT → Thread → Option SharedT) (fun _ _ => none) (fun _ ih s t => match fin t with
    | some true => some s
    | some false => none
    | none => match st s t with
      | some (s', t') => ih s' t'
      | none => none) n

def fin1 (t : Thread) : Option Bool := match t.atExitBegin with
  | some [] => some true
  | some (_ :: _) => some false
  | none => none
def fin2 (ok : Thread → Bool) (t : Thread) : Option Bool := match through t with
  | true => some true
  | false => match ok t with
    | false => some false
    | true => none

theorem goT_imp {tb : String → Option Builtin} {p : Program} {w : World} : ∀ (n : Nat) {s s' : SharedT} {t : Thread},
    goT (stepT (denote tb) p w) fin1 n s t = some s' → importEnds tb p w n s.abs t = some s'.abs
  | 0, _, _, _, h => by cases h
  | n + 1, s, s', t, h => by
    unfold importEnds
    have h : (match fin1 t with
      | some true => some s
      | some false => none
      | none => match stepT (denote tb) p w s t with
        | some (s', t') => goT (stepT (denote tb) p w) fin1 n s' t'
        | none => none) = some s' := h
    unfold fin1 at h
    cases ht : t.atExitBegin with
    | some l => rw [ht] at h; cases l <;> cases h; rfl
    | none =>
      rw [ht] at h
      dsimp only at h ⊢
      cases hs : stepT (denote tb) p w s t with
      | none => rw [hs] at h; cases h
      | some r =>
        obtain ⟨s₂, t₂⟩ := r
        rw [hs] at h
        rw [stepT_spec hs]
        exact goT_imp n h

theorem goT_top {tb : String → Option Builtin} {p : Program} {w : World} {n₀ : Nat} {ann : Option Value} : ∀ (n : Nat) {s s' : SharedT} {t : Thread},
    goT (stepT (denote tb) p w) (fin2 (stepOk n₀ ann)) n s t = some s' → topRun tb p w n₀ ann n s.abs t = some s'.abs
  | 0, _, _, _, h => by cases h
  | n + 1, s, s', t, h => by
    unfold topRun
    have h : (match fin2 (stepOk n₀ ann) t with
      | some true => some s
      | some false => none
      | none => match stepT (denote tb) p w s t with
        | some (s', t') => goT (stepT (denote tb) p w) (fin2 (stepOk n₀ ann)) n s' t'
        | none => none) = some s' := h
    unfold fin2 at h
    cases ht : through t with
    | true => rw [ht] at h; cases h; rfl
    | false =>
      rw [ht] at h
      cases hk : stepOk n₀ ann t with
      | false => rw [hk] at h; cases h
      | true =>
        rw [hk] at h
        dsimp only at h ⊢
        cases hs : stepT (denote tb) p w s t with
        | none => rw [hs] at h; cases h
        | some r =>
          obtain ⟨s₂, t₂⟩ := r
          rw [hs] at h
          rw [stepT_spec hs]
          exact goT_top n h

def ofL : List Obj → BT → Nat → Option BT
  | [], T, _ => some T
  | o :: r, T, n => match ((T.ins n o).get n).isSome with
    | true => ofL r (T.ins n o) (n + 1)
    | false => none
theorem ofL_abs {life : Life} : ∀ (l : List Obj) (T : BT) (n : Nat) (T' : BT), ofL l T n = some T' → absHeap T' (n + l.length) life = l.foldl Heap.push (absHeap T n life)
  | [], T, n, T', h => by cases h; rfl
  | o :: r, T, n, T', h => by
    unfold ofL at h
    cases hg : ((T.ins n o).get n).isSome with
    | false => rw [hg] at h; cases h
    | true =>
      rw [hg] at h
      have q := ofL_abs (life := life) r (T.ins n o) (n + 1) T' h
      rw [List.length_cons, List.foldl_cons, ← absHeap_ins hg, ← q, Nat.add_assoc, Nat.add_comm 1]
theorem foldl_push (life : Life) : ∀ (l : List Obj) (a : Array Obj), l.foldl Heap.push ⟨a, life⟩ = ⟨a ++ l.toArray, life⟩
  | [], a => by simp
  | o :: r, a => by
    rw [List.foldl_cons]
    show r.foldl Heap.push ⟨a.push o, life⟩ = _
    rw [foldl_push life r]
    simp
def toT (s : Shared) : Option SharedT := match ofL s.heap.objs.toList .nil 0 with
  | some T => some ⟨T, s.heap.objs.size, s.heap.life, s.gens, s.drawn, s.toks, s.os⟩
  | none => none
theorem toT_abs {s : Shared} {b : SharedT} (h : toT s = some b) : b.abs = s := by
  unfold toT at h
  cases hq : ofL s.heap.objs.toList .nil 0 with
  | none => rw [hq] at h; cases h
  | some T =>
    rw [hq] at h
    cases h
    obtain ⟨⟨objs, life⟩, gens, drawn, toks, os⟩ := s
    have q := ofL_abs (life := life) _ _ _ _ hq
    have z : absHeap .nil 0 life = ⟨#[], life⟩ := rfl
    rw [z, foldl_push] at q
    show (⟨absHeap T objs.size life, gens, drawn, toks, os⟩ : Shared) = _
    have e : 0 + objs.toList.length = objs.size := by simp
    have q : absHeap T (0 + objs.toList.length) life = _ := q
    rw [e] at q
    rw [q]
    simp

noncomputable def openT (den : Code → Sem Fin) (stp : (Code → Sem Fin) → Program → World → SharedT → Thread → Option (SharedT × Thread)) (ok : Nat → Option Value → Thread → Bool) (f1 : Thread → Option Bool)
    (p : Program) (w : World) (N M : Nat) : Option SharedT :=
  (goT (stp den (opening p) w) f1 M ⟨.nil, 0, {}, #[], {}, 1, (start (opening p)).1.os⟩ (start (opening p)).2).bind fun a =>
  (fenceModules? p a.abs).bind fun s₀ => match s₀.heap.isNs mainGlobals && s₀.gens.size == 0 with
    | false => none
    | true => (toT s₀).bind fun b => (goT (stp den p w) (fin2 (ok s₀.heap.objs.size (s₀.heap.nsMap mainGlobals "__annotations__"))) N b (topStub p)).bind fun c =>
      match staticsOk (importedModules p.main.body) s₀.heap c.abs.heap && namesBound p c.abs.heap && gensDone c.abs && laidKept s₀.heap c.abs.heap with
      | true => some c
      | false => none

theorem openT_spec {p : Program} {w : World} {N M : Nat} {c : SharedT} (le : M ≤ N) (h : openT (denote treeTable) stepT stepOk fin1 p w N M = some c) : openEnds treeTable p w N = some c.abs := by
  unfold openT at h
  obtain ⟨a, h1, h⟩ := Option.bind_eq_some_iff.mp h
  obtain ⟨s₀, h2, h⟩ := Option.bind_eq_some_iff.mp h
  have i := importEnds_mono (N - M) _ _ _ _ (goT_imp _ h1)
  rw [show M + (N - M) = N by omega] at i
  cases hg : (s₀.heap.isNs mainGlobals && s₀.gens.size == 0) with
  | false => rw [hg] at h; cases h
  | true =>
    rw [hg] at h
    obtain ⟨b, h3, h⟩ := Option.bind_eq_some_iff.mp h
    obtain ⟨c', h4, h⟩ := Option.bind_eq_some_iff.mp h
    cases hs : (staticsOk (importedModules p.main.body) s₀.heap c'.abs.heap && namesBound p c'.abs.heap && gensDone c'.abs && laidKept s₀.heap c'.abs.heap) with
    | false => rw [hs] at h; cases h
    | true =>
      rw [hs] at h
      cases h
      have t := goT_top _ h4
      rw [toT_abs h3] at t
      unfold openEnds fencedOpening
      have i : importEnds treeTable (opening p) w N (start (opening p)).1 (start (opening p)).2 = some a.abs := i
      rw [i]
      show ((fenceModules? p a.abs)).bind _ = _
      rw [h2]
      show topFrom treeTable p w N s₀ = _
      unfold topFrom
      rw [hg]
      dsimp only
      rw [t]
      show (match _ with | true => _ | false => _) = _
      rw [hs]

def getT (c : SharedT) (a : Nat) : Option Obj := match Nat.blt a c.n with
  | true => (c.tree.get a).bind alive
  | false => none
theorem getT_abs {c : SharedT} {a : Nat} {o : Obj} (h : getT c a = some o) : c.abs.heap.get? a = some o := by
  unfold getT at h
  cases hb : Nat.blt a c.n with
  | false => rw [hb] at h; cases h
  | true =>
    rw [hb] at h
    obtain ⟨x, h1, h2⟩ := Option.bind_eq_some_iff.mp h
    exact (abs_get (Nat.le_of_ble_eq_true hb) h1).trans h2
theorem getTs {c : SharedT} {K : Frag} : ∀ {as : List Addr} {os : List Obj}, as.map (getT c) = os.map some → as.map c.abs.heap.get? = os.map some
  | [], [], _ => rfl
  | a :: as, o :: os, h => by
    simp only [List.map_cons, List.cons.injEq] at h ⊢
    exact ⟨getT_abs h.1, getTs (K := K) h.2⟩
  | [], _ :: _, h => by cases h
  | _ :: _, [], h => by cases h

theorem left_of {p q : Program} {loose : List Str} {Xt : Shared → Bool} {K : Params → Frag} {as : List Addr} {N M : Nat} (le : M ≤ N)
    (h : ∀ w : World, (openT (denote treeTable) stepT stepOk fin1 p w N M).map (fun c => (openSeen q loose (importedModules p.main.body) Xt true c.abs, as.map (getT c))) = some (openGood q loose, (K w.params).map fun x => some x.2)) :
    LeftO p q loose Xt (fun s => as.map s.heap.get?) (fun w => (K w.params).map fun x => some x.2) N := fun w => by
  obtain ⟨c, h1, h2⟩ := Option.map_eq_some_iff.mp (h w)
  rw [openT_spec le h1]
  obtain ⟨e1, e2⟩ := Prod.mk.inj h2
  show some _ = _
  dsimp only
  rw [e1]
  have z : as.map c.abs.heap.get? = ((K w.params).map (·.2)).map some := getTs (K := K w.params) (by rw [e2, List.map_map]; rfl)
  rw [z, List.map_map]
  rfl
end Mine
end
section
open PySem PySem.W PyProof.Rows
set_option Elab.async false
set_option maxRecDepth 100000
set_option maxHeartbeats 0
set_option linter.unusedVariables false
namespace Mine
abbrev pw := PySem.Challenge.pw_op0201_02
abbrev rw1 := PySem.Challenge.rw_op0201_02
def stm : List Stmt → Nat → Stmt
  | [], _ => .Pass default
  | s :: _, 0 => s
  | _ :: r, n + 1 => stm r n
def argsOf : Stmt → Arguments
  | .FunctionDef _ a _ _ _ _ _ _ _ _ => a
  | _ => ⟨[], [], none, [], [], none, []⟩
def bodyOf : Stmt → List Stmt
  | .FunctionDef _ _ b _ _ _ _ _ _ _ => b
  | .ClassDef _ _ _ b _ _ _ _ _ _ _ => b
  | _ => []
def scopeOf : Stmt → Scope
  | .FunctionDef _ _ _ _ _ _ s _ _ _ => s
  | _ => default
def posOf : Stmt → Pos
  | .FunctionDef _ _ _ _ _ _ _ _ _ p => p
  | _ => default
abbrev litOf {α : Type} {a : α} (b : α) (_h : a = b) : α := a
noncomputable def f_index_p : Arguments := litOf (argsOf (stm pw.main.body 9)) (by conv => rhs; whnf)
noncomputable def f_index_b : List Stmt := litOf (bodyOf (stm pw.main.body 9)) (by conv => rhs; whnf)
noncomputable def f_index_s : Scope := litOf (scopeOf (stm pw.main.body 9)) (by conv => rhs; whnf)
noncomputable def fIOBase___new___p : Arguments := litOf (argsOf (stm (bodyOf (stm pw.main.body 11)) 1)) (by conv => rhs; whnf)
noncomputable def fIOBase___new___b : List Stmt := litOf (bodyOf (stm (bodyOf (stm pw.main.body 11)) 1)) (by conv => rhs; whnf)
noncomputable def fIOBase___new___s : Scope := litOf (scopeOf (stm (bodyOf (stm pw.main.body 11)) 1)) (by conv => rhs; whnf)
noncomputable def fStringIO___init___p : Arguments := litOf (argsOf (stm (bodyOf (stm pw.main.body 15)) 1)) (by conv => rhs; whnf)
noncomputable def fStringIO___init___b : List Stmt := litOf (bodyOf (stm (bodyOf (stm pw.main.body 15)) 1)) (by conv => rhs; whnf)
noncomputable def fStringIO___init___s : Scope := litOf (scopeOf (stm (bodyOf (stm pw.main.body 15)) 1)) (by conv => rhs; whnf)
noncomputable def fStringIO___translated_p : Arguments := litOf (argsOf (stm (bodyOf (stm pw.main.body 15)) 2)) (by conv => rhs; whnf)
noncomputable def fStringIO___translated_b : List Stmt := litOf (bodyOf (stm (bodyOf (stm pw.main.body 15)) 2)) (by conv => rhs; whnf)
noncomputable def fStringIO___translated_s : Scope := litOf (scopeOf (stm (bodyOf (stm pw.main.body 15)) 2)) (by conv => rhs; whnf)
noncomputable def fStringIO___check_p : Arguments := litOf (argsOf (stm (bodyOf (stm pw.main.body 15)) 3)) (by conv => rhs; whnf)
noncomputable def fStringIO___check_b : List Stmt := litOf (bodyOf (stm (bodyOf (stm pw.main.body 15)) 3)) (by conv => rhs; whnf)
noncomputable def fStringIO___check_s : Scope := litOf (scopeOf (stm (bodyOf (stm pw.main.body 15)) 3)) (by conv => rhs; whnf)
noncomputable def fStringIO_read_p : Arguments := litOf (argsOf (stm (bodyOf (stm pw.main.body 15)) 25)) (by conv => rhs; whnf)
noncomputable def fStringIO_read_b : List Stmt := litOf (bodyOf (stm (bodyOf (stm pw.main.body 15)) 25)) (by conv => rhs; whnf)
noncomputable def fStringIO_read_s : Scope := litOf (scopeOf (stm (bodyOf (stm pw.main.body 15)) 25)) (by conv => rhs; whnf)
noncomputable def fshlex___init___p : Arguments := litOf (argsOf (stm (bodyOf (stm pw.main.body 24)) 0)) (by conv => rhs; whnf)
noncomputable def fshlex___init___b : List Stmt := litOf (bodyOf (stm (bodyOf (stm pw.main.body 24)) 0)) (by conv => rhs; whnf)
noncomputable def fshlex___init___s : Scope := litOf (scopeOf (stm (bodyOf (stm pw.main.body 24)) 0)) (by conv => rhs; whnf)
noncomputable def fshlex_punctuation_chars_p : Arguments := litOf (argsOf (stm (bodyOf (stm pw.main.body 24)) 1)) (by conv => rhs; whnf)
noncomputable def fshlex_punctuation_chars_b : List Stmt := litOf (bodyOf (stm (bodyOf (stm pw.main.body 24)) 1)) (by conv => rhs; whnf)
noncomputable def fshlex_punctuation_chars_s : Scope := litOf (scopeOf (stm (bodyOf (stm pw.main.body 24)) 1)) (by conv => rhs; whnf)
noncomputable def fshlex_get_token_p : Arguments := litOf (argsOf (stm (bodyOf (stm pw.main.body 24)) 5)) (by conv => rhs; whnf)
noncomputable def fshlex_get_token_b : List Stmt := litOf (bodyOf (stm (bodyOf (stm pw.main.body 24)) 5)) (by conv => rhs; whnf)
noncomputable def fshlex_get_token_s : Scope := litOf (scopeOf (stm (bodyOf (stm pw.main.body 24)) 5)) (by conv => rhs; whnf)
noncomputable def fshlex_read_token_p : Arguments := litOf (argsOf (stm (bodyOf (stm pw.main.body 24)) 6)) (by conv => rhs; whnf)
noncomputable def fshlex_read_token_b : List Stmt := litOf (bodyOf (stm (bodyOf (stm pw.main.body 24)) 6)) (by conv => rhs; whnf)
noncomputable def fshlex_read_token_s : Scope := litOf (scopeOf (stm (bodyOf (stm pw.main.body 24)) 6)) (by conv => rhs; whnf)
noncomputable def fshlex___iter___p : Arguments := litOf (argsOf (stm (bodyOf (stm pw.main.body 24)) 9)) (by conv => rhs; whnf)
noncomputable def fshlex___iter___b : List Stmt := litOf (bodyOf (stm (bodyOf (stm pw.main.body 24)) 9)) (by conv => rhs; whnf)
noncomputable def fshlex___iter___s : Scope := litOf (scopeOf (stm (bodyOf (stm pw.main.body 24)) 9)) (by conv => rhs; whnf)
noncomputable def fshlex___next___p : Arguments := litOf (argsOf (stm (bodyOf (stm pw.main.body 24)) 10)) (by conv => rhs; whnf)
noncomputable def fshlex___next___b : List Stmt := litOf (bodyOf (stm (bodyOf (stm pw.main.body 24)) 10)) (by conv => rhs; whnf)
noncomputable def fshlex___next___s : Scope := litOf (scopeOf (stm (bodyOf (stm pw.main.body 24)) 10)) (by conv => rhs; whnf)
noncomputable def fsplit_p : Arguments := litOf (argsOf (stm pw.main.body 25)) (by conv => rhs; whnf)
noncomputable def fsplit_b : List Stmt := litOf (bodyOf (stm pw.main.body 25)) (by conv => rhs; whnf)
noncomputable def fsplit_s : Scope := litOf (scopeOf (stm pw.main.body 25)) (by conv => rhs; whnf)
noncomputable def freduce_p : Arguments := litOf (argsOf (stm pw.main.body 6)) (by conv => rhs; whnf)
noncomputable def freduce_b : List Stmt := litOf (bodyOf (stm pw.main.body 6)) (by conv => rhs; whnf)
noncomputable def freduce_s : Scope := litOf (scopeOf (stm pw.main.body 6)) (by conv => rhs; whnf)
noncomputable def f_byteswap_p : Arguments := litOf (argsOf (stm pw.main.body 3)) (by conv => rhs; whnf)
noncomputable def f_byteswap_b : List Stmt := litOf (bodyOf (stm pw.main.body 3)) (by conv => rhs; whnf)
noncomputable def f_byteswap_s : Scope := litOf (scopeOf (stm pw.main.body 3)) (by conv => rhs; whnf)
noncomputable def f_law_spelled_p : Arguments := litOf (argsOf (stm pw.main.body 27)) (by conv => rhs; whnf)
noncomputable def f_law_spelled_b : List Stmt := litOf (bodyOf (stm pw.main.body 27)) (by conv => rhs; whnf)
noncomputable def f_law_spelled_s : Scope := litOf (scopeOf (stm pw.main.body 27)) (by conv => rhs; whnf)
noncomputable def f_law_turned_p : Arguments := litOf (argsOf (stm pw.main.body 28)) (by conv => rhs; whnf)
noncomputable def f_law_turned_b : List Stmt := litOf (bodyOf (stm pw.main.body 28)) (by conv => rhs; whnf)
noncomputable def f_law_turned_s : Scope := litOf (scopeOf (stm pw.main.body 28)) (by conv => rhs; whnf)
noncomputable def f_law_deed_p : Arguments := litOf (argsOf (stm pw.main.body 29)) (by conv => rhs; whnf)
noncomputable def f_law_deed_b : List Stmt := litOf (bodyOf (stm pw.main.body 29)) (by conv => rhs; whnf)
noncomputable def f_law_deed_s : Scope := litOf (scopeOf (stm pw.main.body 29)) (by conv => rhs; whnf)
noncomputable def f_law_place_p : Arguments := litOf (argsOf (stm pw.main.body 30)) (by conv => rhs; whnf)
noncomputable def f_law_place_b : List Stmt := litOf (bodyOf (stm pw.main.body 30)) (by conv => rhs; whnf)
noncomputable def f_law_place_s : Scope := litOf (scopeOf (stm pw.main.body 30)) (by conv => rhs; whnf)
noncomputable def flaw_p : Arguments := litOf (argsOf (stm pw.main.body 31)) (by conv => rhs; whnf)
noncomputable def flaw_b : List Stmt := litOf (bodyOf (stm pw.main.body 31)) (by conv => rhs; whnf)
noncomputable def flaw_s : Scope := litOf (scopeOf (stm pw.main.body 31)) (by conv => rhs; whnf)
noncomputable def ob2 (P : Params) : Obj := ⟨.none, none, (.dict [⟨PyData.keyHash P ("\x69mport.loaded._collections" : Str), .str ("\x69mport.loaded._collections" : Str) 185, (.bool true)⟩,
    ⟨PyData.keyHash P ("class._frozen_importlib.BuiltinImporter" : Str), .str ("class._frozen_importlib.BuiltinImporter" : Str) 187, (.ref 15)⟩,
    ⟨PyData.keyHash P ("watched.\x69mport" : Str), .str ("watched.\x69mport" : Str) 208, (.ref 19)⟩,
    ⟨PyData.keyHash P ("class._frozen_importlib.ModuleSpec" : Str), .str ("class._frozen_importlib.ModuleSpec" : Str) 218, (.ref 23)⟩,
    ⟨PyData.keyHash P ("sys.modules.booked-epoch" : Str), .str ("sys.modules.booked-epoch" : Str) 247, (.int (3) 0)⟩,
    ⟨PyData.keyHash P ("sys.modules.landed._collections" : Str), .str ("sys.modules.landed._collections" : Str) 248, (.bool true)⟩,
    ⟨PyData.keyHash P ("\x69mport.later-laid._collections" : Str), .str ("\x69mport.later-laid._collections" : Str) 263, (.bool true)⟩,
    ⟨PyData.keyHash P ("watched.library" : Str), .str ("watched.library" : Str) 265, (.ref 28)⟩,
    ⟨PyData.keyHash P ("watched.library-objects" : Str), .str ("watched.library-objects" : Str) 0, (.str ("\x0d" : Str) 0)⟩,
    ⟨PyData.keyHash P ("watched.library-deep._collections" : Str), .str ("watched.library-deep._collections" : Str) 266, (.str ("\x04\x00\x00\x0c\x04\x00\x00\x0c\x04\x00\x00\x03\x04\x00\x00\x0c\x08\x04dict\x02" : Str) 0)⟩,
    ⟨PyData.keyHash P ("type.__subclasses__.OSError.0" : Str), .str ("type.__subclasses__.OSError.0" : Str) 350, (.int (79) 0)⟩,
    ⟨PyData.keyHash P ("type.__subclasses__.OSError.n" : Str), .str ("type.__subclasses__.OSError.n" : Str) 351, (.int (1) 0)⟩].toArray 12), #[]⟩
noncomputable def ob3 (P : Params) : Obj := ⟨(.type "dict"), none, (.dict [⟨PyData.keyHash P ("__name__" : Str), .str ("__name__" : Str) 165, (.str ("law_op0201_02" : Str) 1180)⟩,
    ⟨PyData.keyHash P ("__doc__" : Str), .str ("__doc__" : Str) 166, .none⟩,
    ⟨PyData.keyHash P ("__package__" : Str), .str ("__package__" : Str) 167, .none⟩,
    ⟨PyData.keyHash P ("__loader__" : Str), .str ("__loader__" : Str) 168, (.builtin "__main__.__loader__#\x6fpaque")⟩,
    ⟨PyData.keyHash P ("__spec__" : Str), .str ("__spec__" : Str) 169, .none⟩,
    ⟨PyData.keyHash P ("__annotations__" : Str), .str ("__annotations__" : Str) 170, (.ref 6)⟩,
    ⟨PyData.keyHash P ("__builtins__" : Str), .str ("__builtins__" : Str) 171, (.ref 4)⟩,
    ⟨PyData.keyHash P ("__file__" : Str), .str ("__file__" : Str) 173, (.str ("/claim/cut.py" : Str) 172)⟩,
    ⟨PyData.keyHash P ("__cached__" : Str), .str ("__cached__" : Str) 174, .none⟩,
    ⟨PyData.keyHash P ("deque" : Str), .str ("deque" : Str) 272, (.type "collections.deque")⟩,
    ⟨PyData.keyHash P ("_wall" : Str), .str ("_wall" : Str) 285, (.ref 39)⟩,
    ⟨PyData.keyHash P ("_byteswap" : Str), .str ("_byteswap" : Str) 298, (.ref 46)⟩,
    ⟨PyData.keyHash P ("_initial_missing" : Str), .str ("_initial_missing" : Str) 301, (.ref 47)⟩,
    ⟨PyData.keyHash P ("reduce" : Str), .str ("reduce" : Str) 313, (.ref 55)⟩,
    ⟨PyData.keyHash P ("_whence" : Str), .str ("_whence" : Str) 323, (.ref 62)⟩,
    ⟨PyData.keyHash P ("_index" : Str), .str ("_index" : Str) 331, (.ref 69)⟩,
    ⟨PyData.keyHash P ("UnsupportedOperation" : Str), .str ("UnsupportedOperation" : Str) 353, (.ref 79)⟩,
    ⟨PyData.keyHash P ("IOBase" : Str), .str ("IOBase" : Str) 385, (.ref 99)⟩,
    ⟨PyData.keyHash P ("BufferedIOBase" : Str), .str ("BufferedIOBase" : Str) 403, (.ref 114)⟩,
    ⟨PyData.keyHash P ("TextIOBase" : Str), .str ("TextIOBase" : Str) 421, (.ref 126)⟩,
    ⟨PyData.keyHash P ("BytesIO" : Str), .str ("BytesIO" : Str) 683, (.ref 356)⟩,
    ⟨PyData.keyHash P ("StringIO" : Str), .str ("StringIO" : Str) 970, (.ref 603)⟩,
    ⟨PyData.keyHash P ("_kind" : Str), .str ("_kind" : Str) 981, (.ref 612)⟩,
    ⟨PyData.keyHash P ("_fspath" : Str), .str ("_fspath" : Str) 990, (.ref 619)⟩,
    ⟨PyData.keyHash P ("_check_arg_types" : Str), .str ("_check_arg_types" : Str) 1000, (.ref 626)⟩,
    ⟨PyData.keyHash P ("isabs" : Str), .str ("isabs" : Str) 1007, (.ref 633)⟩,
    ⟨PyData.keyHash P ("join" : Str), .str ("join" : Str) 1018, (.ref 640)⟩,
    ⟨PyData.keyHash P ("dirname" : Str), .str ("dirname" : Str) 1028, (.ref 647)⟩,
    ⟨PyData.keyHash P ("shlex" : Str), .str ("shlex" : Str) 1169, (.ref 738)⟩,
    ⟨PyData.keyHash P ("split" : Str), .str ("split" : Str) 1179, (.ref 750)⟩,
    ⟨PyData.keyHash P ("_law_spelled" : Str), .str ("_law_spelled" : Str) 1189, (.ref 757)⟩,
    ⟨PyData.keyHash P ("_law_turned" : Str), .str ("_law_turned" : Str) 1195, (.ref 762)⟩,
    ⟨PyData.keyHash P ("_law_deed" : Str), .str ("_law_deed" : Str) 1201, (.ref 767)⟩,
    ⟨PyData.keyHash P ("_law_place" : Str), .str ("_law_place" : Str) 1214, (.ref 774)⟩,
    ⟨PyData.keyHash P ("law" : Str), .str ("law" : Str) 1220, (.ref 779)⟩].toArray 35), #[]⟩
noncomputable def ob45 (_P : Params) : Obj := ⟨(.type "code"), none, (.fields #[(.str ("_byteswap" : Str) 288), (.str ("_byteswap" : Str) 289), (.str ("/claim/cut.py" : Str) 290), (.int (6) 0), (.int (2) 0), (.int (0) 0), (.int (0) 0), (.int (3) 0), (.ref 40), (.bool true), (.int (273) 0), (.ref 41), .none, (.ref 42), (.ref 43), (.ref 44), (.int (296) 0), (.int (6) 0), (.str ("/claim/cut.py" : Str) 297)]), #[]⟩
noncomputable def ob46 (_P : Params) : Obj := ⟨(.type "function"), none, (.func (fnOf ("_byteswap" : Str) ("_byteswap" : Str) f_byteswap_p f_byteswap_b f_byteswap_s .none .none .none (.str ("cpy313.wave" : Str) 286) none (.ref 45) .none)), #[]⟩
noncomputable def ob47 (_P : Params) : Obj := ⟨(.type "object"), none, .plain, #[]⟩
noncomputable def ob48 (_P : Params) : Obj := ⟨(.type "tuple"), none, (.seq #[(.ref 47)] 0), #[]⟩
noncomputable def ob54 (_P : Params) : Obj := ⟨(.type "code"), none, (.fields #[(.str ("reduce" : Str) 302), (.str ("reduce" : Str) 303), (.str ("/claim/cut.py" : Str) 304), (.int (14) 0), (.int (3) 0), (.int (0) 0), (.int (0) 0), (.int (3) 0), (.ref 49), (.bool true), (.int (273) 0), (.ref 50), .none, (.ref 51), (.ref 52), (.ref 53), (.int (311) 0), (.int (14) 0), (.str ("/claim/cut.py" : Str) 312)]), #[]⟩
noncomputable def ob55 (_P : Params) : Obj := ⟨(.type "function"), none, (.func (fnOf ("reduce" : Str) ("reduce" : Str) freduce_p freduce_b freduce_s (.ref 48) .none .none (.str ("cpy313.functools" : Str) 299) none (.ref 54) .none)), #[]⟩
noncomputable def ob68 (_P : Params) : Obj := ⟨(.type "code"), none, (.fields #[(.str ("_index" : Str) 324), (.str ("_index" : Str) 325), (.str ("/claim/cut.py" : Str) 326), (.int (32) 0), (.int (2) 0), (.int (0) 0), (.int (0) 0), (.int (3) 0), (.ref 63), (.bool true), (.int (273) 0), (.ref 64), .none, (.ref 65), (.ref 66), (.ref 67), (.int (329) 0), (.int (32) 0), (.str ("/claim/cut.py" : Str) 330)]), #[]⟩
noncomputable def ob69 (_P : Params) : Obj := ⟨(.type "function"), none, (.func (fnOf ("_index" : Str) ("_index" : Str) f_index_p f_index_b f_index_s .none .none .none (.str ("io" : Str) 314) none (.ref 68) .none)), #[]⟩
noncomputable def ob95 (_P : Params) : Obj := ⟨(.type "code"), none, (.fields #[(.str ("__new__" : Str) 368), (.str ("IOBase.__new__" : Str) 369), (.str ("/claim/cut.py" : Str) 370), (.int (44) 0), (.int (1) 0), (.int (1) 0), (.int (0) 0), (.int (15) 0), (.ref 90), (.bool true), (.int (273) 0), (.ref 91), .none, (.ref 92), (.ref 93), (.ref 94), (.int (374) 0), (.int (44) 0), (.str ("/claim/cut.py" : Str) 375)]), #[]⟩
noncomputable def ob96 (_P : Params) : Obj := ⟨(.type "function"), none, (.func (fnOf ("__new__" : Str) ("IOBase.__new__" : Str) fIOBase___new___p fIOBase___new___b fIOBase___new___s .none .none .none (.str ("io" : Str) 314) none (.ref 95) .none)), #[]⟩
noncomputable def ob98 (P : Params) : Obj := ⟨(.type "dict"), none, (.dict [⟨PyData.keyHash P ("__module__" : Str), .str ("__module__" : Str) 361, (.str ("io" : Str) 366)⟩,
    ⟨PyData.keyHash P ("__firstlineno__" : Str), .str ("__firstlineno__" : Str) 365, (.int (41) 364)⟩,
    ⟨PyData.keyHash P ("__new__" : Str), .str ("__new__" : Str) 376, (.ref 100)⟩,
    ⟨PyData.keyHash P ("__static_attributes__" : Str), .str ("__static_attributes__" : Str) 377, (.ref 97)⟩,
    ⟨PyData.keyHash P ("__dict__" : Str), .str ("__dict__" : Str) 380, (.ref 101)⟩,
    ⟨PyData.keyHash P ("__weakref__" : Str), .str ("__weakref__" : Str) 382, (.ref 102)⟩,
    ⟨PyData.keyHash P ("__doc__" : Str), .str ("__doc__" : Str) 383, .none⟩].toArray 4), #[]⟩
noncomputable def ob99 (_P : Params) : Obj := ⟨(.type "type"), none, (.cls { name := ("IOBase" : Str), bases := [(.type "object")], mro := [(.ref 99), (.type "object")], ns := 98, qualname := ("IOBase" : Str), hasDict := true, slotNames := [], subclasses := [(.ref 114), (.ref 126)], abstract := false, collection := none, hasDel := false }), #[none, none, (some (.str ("IOBase" : Str) 354)), (some (.str ("IOBase" : Str) 362)), (some .none), (some (.bool true))]⟩
noncomputable def ob100 (_P : Params) : Obj := ⟨(.type "staticmethod"), none, (.fields #[(.ref 96)]), #[]⟩
noncomputable def ob125 (P : Params) : Obj := ⟨(.type "dict"), none, (.dict [⟨PyData.keyHash P ("__module__" : Str), .str ("__module__" : Str) 411, (.str ("io" : Str) 416)⟩,
    ⟨PyData.keyHash P ("__firstlineno__" : Str), .str ("__firstlineno__" : Str) 415, (.int (50) 414)⟩,
    ⟨PyData.keyHash P ("__static_attributes__" : Str), .str ("__static_attributes__" : Str) 418, (.ref 124)⟩,
    ⟨PyData.keyHash P ("__doc__" : Str), .str ("__doc__" : Str) 419, .none⟩].toArray 2), #[]⟩
noncomputable def ob126 (_P : Params) : Obj := ⟨(.type "type"), none, (.cls { name := ("TextIOBase" : Str), bases := [(.ref 99)], mro := [(.ref 126), (.ref 99), (.type "object")], ns := 125, qualname := ("TextIOBase" : Str), hasDict := true, slotNames := [], subclasses := [(.ref 603)], abstract := false, collection := none, hasDel := false }), #[(some (.ref 117)), none, (some (.str ("TextIOBase" : Str) 404)), (some (.str ("TextIOBase" : Str) 412)), (some .none), (some (.bool true))]⟩
noncomputable def ob356 (_P : Params) : Obj := ⟨(.type "type"), none, (.cls { name := ("BytesIO" : Str), bases := [(.ref 114)], mro := [(.ref 356), (.ref 114), (.ref 99), (.type "object")], ns := 355, qualname := ("BytesIO" : Str), hasDict := true, slotNames := [], subclasses := [], abstract := false, collection := none, hasDel := false }), #[(some (.ref 129)), none, (some (.str ("BytesIO" : Str) 422)), (some (.str ("BytesIO" : Str) 430)), (some .none), (some (.bool true))]⟩
noncomputable def ob366 (_P : Params) : Obj := ⟨(.type "tuple"), none, (.seq #[(.str ("" : Str) 698), (.str ("\n" : Str) 699)] 0), #[]⟩
noncomputable def ob372 (_P : Params) : Obj := ⟨(.type "code"), none, (.fields #[(.str ("__init__" : Str) 700), (.str ("StringIO.__init__" : Str) 701), (.str ("/claim/cut.py" : Str) 702), (.int (225) 0), (.int (3) 0), (.int (0) 0), (.int (0) 0), (.int (3) 0), (.ref 367), (.bool true), (.int (273) 0), (.ref 368), .none, (.ref 369), (.ref 370), (.ref 371), (.int (706) 0), (.int (225) 0), (.str ("/claim/cut.py" : Str) 707)]), #[]⟩
noncomputable def ob373 (_P : Params) : Obj := ⟨(.type "function"), none, (.func (fnOf ("__init__" : Str) ("StringIO.__init__" : Str) fStringIO___init___p fStringIO___init___b fStringIO___init___s (.ref 366) .none .none (.str ("io" : Str) 314) none (.ref 372) .none)), #[]⟩
noncomputable def ob379 (_P : Params) : Obj := ⟨(.type "code"), none, (.fields #[(.str ("__translated" : Str) 709), (.str ("StringIO.__translated" : Str) 710), (.str ("/claim/cut.py" : Str) 711), (.int (238) 0), (.int (2) 0), (.int (0) 0), (.int (0) 0), (.int (3) 0), (.ref 374), (.bool true), (.int (273) 0), (.ref 375), .none, (.ref 376), (.ref 377), (.ref 378), (.int (715) 0), (.int (238) 0), (.str ("/claim/cut.py" : Str) 716)]), #[]⟩
noncomputable def ob380 (_P : Params) : Obj := ⟨(.type "function"), none, (.func (fnOf ("__translated" : Str) ("StringIO.__translated" : Str) fStringIO___translated_p fStringIO___translated_b fStringIO___translated_s .none .none .none (.str ("io" : Str) 314) none (.ref 379) .none)), #[]⟩
noncomputable def ob386 (_P : Params) : Obj := ⟨(.type "code"), none, (.fields #[(.str ("__check" : Str) 718), (.str ("StringIO.__check" : Str) 719), (.str ("/claim/cut.py" : Str) 720), (.int (246) 0), (.int (1) 0), (.int (0) 0), (.int (0) 0), (.int (3) 0), (.ref 381), (.bool true), (.int (273) 0), (.ref 382), .none, (.ref 383), (.ref 384), (.ref 385), (.int (722) 0), (.int (246) 0), (.str ("/claim/cut.py" : Str) 723)]), #[]⟩
noncomputable def ob387 (_P : Params) : Obj := ⟨(.type "function"), none, (.func (fnOf ("__check" : Str) ("StringIO.__check" : Str) fStringIO___check_p fStringIO___check_b fStringIO___check_s .none .none .none (.str ("io" : Str) 314) none (.ref 386) .none)), #[]⟩
noncomputable def ob542 (_P : Params) : Obj := ⟨(.type "tuple"), none, (.seq #[(.int (-1) 891)] 0), #[]⟩
noncomputable def ob548 (_P : Params) : Obj := ⟨(.type "code"), none, (.fields #[(.str ("read" : Str) 892), (.str ("StringIO.read" : Str) 893), (.str ("/claim/cut.py" : Str) 894), (.int (368) 0), (.int (2) 0), (.int (2) 0), (.int (0) 0), (.int (3) 0), (.ref 543), (.bool true), (.int (273) 0), (.ref 544), .none, (.ref 545), (.ref 546), (.ref 547), (.int (899) 0), (.int (368) 0), (.str ("/claim/cut.py" : Str) 900)]), #[]⟩
noncomputable def ob549 (_P : Params) : Obj := ⟨(.type "function"), none, (.func (fnOf ("read" : Str) ("StringIO.read" : Str) fStringIO_read_p fStringIO_read_b fStringIO_read_s (.ref 542) .none .none (.str ("io" : Str) 314) none (.ref 548) .none)), #[]⟩
noncomputable def ob602 (P : Params) : Obj := ⟨(.type "dict"), none, (.dict [⟨PyData.keyHash P ("__module__" : Str), .str ("__module__" : Str) 691, (.str ("_io" : Str) 696)⟩,
    ⟨PyData.keyHash P ("__firstlineno__" : Str), .str ("__firstlineno__" : Str) 695, (.int (222) 694)⟩,
    ⟨PyData.keyHash P ("__init__" : Str), .str ("__init__" : Str) 708, (.ref 373)⟩,
    ⟨PyData.keyHash P ("_StringIO__translated" : Str), .str ("_StringIO__translated" : Str) 717, (.ref 380)⟩,
    ⟨PyData.keyHash P ("_StringIO__check" : Str), .str ("_StringIO__check" : Str) 724, (.ref 387)⟩,
    ⟨PyData.keyHash P ("_StringIO__check_dot" : Str), .str ("_StringIO__check_dot" : Str) 731, (.ref 394)⟩,
    ⟨PyData.keyHash P ("_StringIO__line" : Str), .str ("_StringIO__line" : Str) 746, (.ref 401)⟩,
    ⟨PyData.keyHash P ("closed" : Str), .str ("closed" : Str) 754, (.ref 409)⟩,
    ⟨PyData.keyHash P ("line_buffering" : Str), .str ("line_buffering" : Str) 762, (.ref 417)⟩,
    ⟨PyData.keyHash P ("newlines" : Str), .str ("newlines" : Str) 770, (.ref 425)⟩,
    ⟨PyData.keyHash P ("encoding" : Str), .str ("encoding" : Str) 778, (.ref 433)⟩,
    ⟨PyData.keyHash P ("errors" : Str), .str ("errors" : Str) 786, (.ref 441)⟩,
    ⟨PyData.keyHash P ("close" : Str), .str ("close" : Str) 793, (.ref 448)⟩,
    ⟨PyData.keyHash P ("__enter__" : Str), .str ("__enter__" : Str) 800, (.ref 455)⟩,
    ⟨PyData.keyHash P ("__exit__" : Str), .str ("__exit__" : Str) 808, (.ref 462)⟩,
    ⟨PyData.keyHash P ("readable" : Str), .str ("readable" : Str) 815, (.ref 469)⟩,
    ⟨PyData.keyHash P ("writable" : Str), .str ("writable" : Str) 822, (.ref 476)⟩,
    ⟨PyData.keyHash P ("seekable" : Str), .str ("seekable" : Str) 829, (.ref 483)⟩,
    ⟨PyData.keyHash P ("isatty" : Str), .str ("isatty" : Str) 836, (.ref 490)⟩,
    ⟨PyData.keyHash P ("flush" : Str), .str ("flush" : Str) 843, (.ref 497)⟩,
    ⟨PyData.keyHash P ("fileno" : Str), .str ("fileno" : Str) 850, (.ref 504)⟩,
    ⟨PyData.keyHash P ("detach" : Str), .str ("detach" : Str) 857, (.ref 511)⟩,
    ⟨PyData.keyHash P ("getvalue" : Str), .str ("getvalue" : Str) 864, (.ref 518)⟩,
    ⟨PyData.keyHash P ("tell" : Str), .str ("tell" : Str) 871, (.ref 525)⟩,
    ⟨PyData.keyHash P ("seek" : Str), .str ("seek" : Str) 881, (.ref 533)⟩,
    ⟨PyData.keyHash P ("truncate" : Str), .str ("truncate" : Str) 889, (.ref 541)⟩,
    ⟨PyData.keyHash P ("read" : Str), .str ("read" : Str) 901, (.ref 549)⟩,
    ⟨PyData.keyHash P ("readline" : Str), .str ("readline" : Str) 911, (.ref 557)⟩,
    ⟨PyData.keyHash P ("readlines" : Str), .str ("readlines" : Str) 921, (.ref 565)⟩,
    ⟨PyData.keyHash P ("__iter__" : Str), .str ("__iter__" : Str) 928, (.ref 572)⟩,
    ⟨PyData.keyHash P ("__next__" : Str), .str ("__next__" : Str) 936, (.ref 579)⟩,
    ⟨PyData.keyHash P ("write" : Str), .str ("write" : Str) 948, (.ref 586)⟩,
    ⟨PyData.keyHash P ("writelines" : Str), .str ("writelines" : Str) 956, (.ref 593)⟩,
    ⟨PyData.keyHash P ("__repr__" : Str), .str ("__repr__" : Str) 963, (.ref 600)⟩,
    ⟨PyData.keyHash P ("__static_attributes__" : Str), .str ("__static_attributes__" : Str) 967, (.ref 601)⟩,
    ⟨PyData.keyHash P ("__doc__" : Str), .str ("__doc__" : Str) 968, .none⟩].toArray 2), #[]⟩
noncomputable def ob603 (_P : Params) : Obj := ⟨(.type "type"), none, (.cls { name := ("StringIO" : Str), bases := [(.ref 126)], mro := [(.ref 603), (.ref 126), (.ref 99), (.type "object")], ns := 602, qualname := ("StringIO" : Str), hasDict := true, slotNames := [], subclasses := [], abstract := false, collection := none, hasDel := false }), #[(some (.ref 359)), none, (some (.str ("StringIO" : Str) 684)), (some (.str ("StringIO" : Str) 692)), (some .none), (some (.bool true))]⟩
noncomputable def ob655 (_P : Params) : Obj := ⟨(.type "tuple"), none, (.seq #[.none, .none, (.bool false), (.bool false)] 0), #[]⟩
noncomputable def ob661 (_P : Params) : Obj := ⟨(.type "code"), none, (.fields #[(.str ("__init__" : Str) 1043), (.str ("shlex.__init__" : Str) 1044), (.str ("/claim/cut.py" : Str) 1045), (.int (493) 0), (.int (5) 0), (.int (0) 0), (.int (0) 0), (.int (3) 0), (.ref 656), (.bool true), (.int (273) 0), (.ref 657), .none, (.ref 658), (.ref 659), (.ref 660), (.int (1052) 0), (.int (493) 0), (.str ("/claim/cut.py" : Str) 1053)]), #[]⟩
noncomputable def ob662 (_P : Params) : Obj := ⟨(.type "function"), none, (.func (fnOf ("__init__" : Str) ("shlex.__init__" : Str) fshlex___init___p fshlex___init___b fshlex___init___s (.ref 655) .none .none (.str ("cpy313.shlex" : Str) 1029) none (.ref 661) .none)), #[]⟩
noncomputable def ob668 (_P : Params) : Obj := ⟨(.type "code"), none, (.fields #[(.str ("punctuation_chars" : Str) 1055), (.str ("shlex.punctuation_chars" : Str) 1056), (.str ("/claim/cut.py" : Str) 1057), (.int (534) 0), (.int (1) 0), (.int (0) 0), (.int (0) 0), (.int (3) 0), (.ref 663), (.bool true), (.int (273) 0), (.ref 664), .none, (.ref 665), (.ref 666), (.ref 667), (.int (1059) 0), (.int (534) 0), (.str ("/claim/cut.py" : Str) 1060)]), #[]⟩
noncomputable def ob669 (_P : Params) : Obj := ⟨(.type "function"), none, (.func (fnOf ("punctuation_chars" : Str) ("shlex.punctuation_chars" : Str) fshlex_punctuation_chars_p fshlex_punctuation_chars_b fshlex_punctuation_chars_s .none .none .none (.str ("cpy313.shlex" : Str) 1029) none (.ref 668) .none)), #[]⟩
noncomputable def ob670 (_P : Params) : Obj := ⟨(.type "property"), none, (.fields #[(.ref 669), .none, .none, .none, (.str ("punctuation_chars" : Str) 1062), (.bool false)]), #[]⟩
noncomputable def ob698 (_P : Params) : Obj := ⟨(.type "code"), none, (.fields #[(.str ("get_token" : Str) 1087), (.str ("shlex.get_token" : Str) 1088), (.str ("/claim/cut.py" : Str) 1089), (.int (561) 0), (.int (1) 0), (.int (0) 0), (.int (0) 0), (.int (3) 0), (.ref 693), (.bool true), (.int (273) 0), (.ref 694), .none, (.ref 695), (.ref 696), (.ref 697), (.int (1096) 0), (.int (561) 0), (.str ("/claim/cut.py" : Str) 1097)]), #[]⟩
noncomputable def ob699 (_P : Params) : Obj := ⟨(.type "function"), none, (.func (fnOf ("get_token" : Str) ("shlex.get_token" : Str) fshlex_get_token_p fshlex_get_token_b fshlex_get_token_s .none .none .none (.str ("cpy313.shlex" : Str) 1029) none (.ref 698) .none)), #[]⟩
noncomputable def ob705 (_P : Params) : Obj := ⟨(.type "code"), none, (.fields #[(.str ("read_token" : Str) 1099), (.str ("shlex.read_token" : Str) 1100), (.str ("/claim/cut.py" : Str) 1101), (.int (588) 0), (.int (1) 0), (.int (0) 0), (.int (0) 0), (.int (3) 0), (.ref 700), (.bool true), (.int (273) 0), (.ref 701), .none, (.ref 702), (.ref 703), (.ref 704), (.int (1107) 0), (.int (588) 0), (.str ("/claim/cut.py" : Str) 1108)]), #[]⟩
noncomputable def ob706 (_P : Params) : Obj := ⟨(.type "function"), none, (.func (fnOf ("read_token" : Str) ("shlex.read_token" : Str) fshlex_read_token_p fshlex_read_token_b fshlex_read_token_s .none .none .none (.str ("cpy313.shlex" : Str) 1029) none (.ref 705) .none)), #[]⟩
noncomputable def ob727 (_P : Params) : Obj := ⟨(.type "code"), none, (.fields #[(.str ("__iter__" : Str) 1127), (.str ("shlex.__iter__" : Str) 1128), (.str ("/claim/cut.py" : Str) 1129), (.int (735) 0), (.int (1) 0), (.int (0) 0), (.int (0) 0), (.int (3) 0), (.ref 722), (.bool true), (.int (273) 0), (.ref 723), .none, (.ref 724), (.ref 725), (.ref 726), (.int (1131) 0), (.int (735) 0), (.str ("/claim/cut.py" : Str) 1132)]), #[]⟩
noncomputable def ob728 (_P : Params) : Obj := ⟨(.type "function"), none, (.func (fnOf ("__iter__" : Str) ("shlex.__iter__" : Str) fshlex___iter___p fshlex___iter___b fshlex___iter___s .none .none .none (.str ("cpy313.shlex" : Str) 1029) none (.ref 727) .none)), #[]⟩
noncomputable def ob734 (_P : Params) : Obj := ⟨(.type "code"), none, (.fields #[(.str ("__next__" : Str) 1134), (.str ("shlex.__next__" : Str) 1135), (.str ("/claim/cut.py" : Str) 1136), (.int (738) 0), (.int (1) 0), (.int (0) 0), (.int (0) 0), (.int (3) 0), (.ref 729), (.bool true), (.int (273) 0), (.ref 730), .none, (.ref 731), (.ref 732), (.ref 733), (.int (1139) 0), (.int (738) 0), (.str ("/claim/cut.py" : Str) 1140)]), #[]⟩
noncomputable def ob735 (_P : Params) : Obj := ⟨(.type "function"), none, (.func (fnOf ("__next__" : Str) ("shlex.__next__" : Str) fshlex___next___p fshlex___next___b fshlex___next___s .none .none .none (.str ("cpy313.shlex" : Str) 1029) none (.ref 734) .none)), #[]⟩
noncomputable def ob737 (P : Params) : Obj := ⟨(.type "dict"), none, (.dict [⟨PyData.keyHash P ("__module__" : Str), .str ("__module__" : Str) 1038, (.str ("cpy313.shlex" : Str) 1029)⟩,
    ⟨PyData.keyHash P ("__firstlineno__" : Str), .str ("__firstlineno__" : Str) 1042, (.int (491) 1041)⟩,
    ⟨PyData.keyHash P ("__init__" : Str), .str ("__init__" : Str) 1054, (.ref 662)⟩,
    ⟨PyData.keyHash P ("punctuation_chars" : Str), .str ("punctuation_chars" : Str) 1062, (.ref 670)⟩,
    ⟨PyData.keyHash P ("push_token" : Str), .str ("push_token" : Str) 1070, (.ref 677)⟩,
    ⟨PyData.keyHash P ("push_source" : Str), .str ("push_source" : Str) 1079, (.ref 685)⟩,
    ⟨PyData.keyHash P ("pop_source" : Str), .str ("pop_source" : Str) 1086, (.ref 692)⟩,
    ⟨PyData.keyHash P ("get_token" : Str), .str ("get_token" : Str) 1098, (.ref 699)⟩,
    ⟨PyData.keyHash P ("read_token" : Str), .str ("read_token" : Str) 1109, (.ref 706)⟩,
    ⟨PyData.keyHash P ("sourcehook" : Str), .str ("sourcehook" : Str) 1117, (.ref 713)⟩,
    ⟨PyData.keyHash P ("error_leader" : Str), .str ("error_leader" : Str) 1126, (.ref 721)⟩,
    ⟨PyData.keyHash P ("__iter__" : Str), .str ("__iter__" : Str) 1133, (.ref 728)⟩,
    ⟨PyData.keyHash P ("__next__" : Str), .str ("__next__" : Str) 1141, (.ref 735)⟩,
    ⟨PyData.keyHash P ("__static_attributes__" : Str), .str ("__static_attributes__" : Str) 1162, (.ref 736)⟩,
    ⟨PyData.keyHash P ("__dict__" : Str), .str ("__dict__" : Str) 1164, (.ref 739)⟩,
    ⟨PyData.keyHash P ("__weakref__" : Str), .str ("__weakref__" : Str) 1166, (.ref 740)⟩,
    ⟨PyData.keyHash P ("__doc__" : Str), .str ("__doc__" : Str) 1167, .none⟩].toArray 4), #[]⟩
noncomputable def ob738 (_P : Params) : Obj := ⟨(.type "type"), none, (.cls { name := ("shlex" : Str), bases := [(.type "object")], mro := [(.ref 738), (.type "object")], ns := 737, qualname := ("shlex" : Str), hasDict := true, slotNames := [], subclasses := [], abstract := false, collection := none, hasDel := false }), #[none, none, (some (.str ("shlex" : Str) 1031)), (some (.str ("shlex" : Str) 1039)), (some (.builtin "object.__new__")), (some (.bool true))]⟩
noncomputable def ob743 (_P : Params) : Obj := ⟨(.type "tuple"), none, (.seq #[(.bool false), (.bool true)] 0), #[]⟩
noncomputable def ob749 (_P : Params) : Obj := ⟨(.type "code"), none, (.fields #[(.str ("split" : Str) 1170), (.str ("split" : Str) 1171), (.str ("/claim/cut.py" : Str) 1172), (.int (743) 0), (.int (3) 0), (.int (0) 0), (.int (0) 0), (.int (3) 0), (.ref 744), (.bool true), (.int (273) 0), (.ref 745), .none, (.ref 746), (.ref 747), (.ref 748), (.int (1177) 0), (.int (743) 0), (.str ("/claim/cut.py" : Str) 1178)]), #[]⟩
noncomputable def ob750 (_P : Params) : Obj := ⟨(.type "function"), none, (.func (fnOf ("split" : Str) ("split" : Str) fsplit_p fsplit_b fsplit_s (.ref 743) .none .none (.str ("cpy313.shlex" : Str) 1029) none (.ref 749) .none)), #[]⟩
noncomputable def ob756 (_P : Params) : Obj := ⟨(.type "code"), none, (.fields #[(.str ("_law_spelled" : Str) 1182), (.str ("_law_spelled" : Str) 1183), (.str ("/claim/cut.py" : Str) 1184), (.int (752) 0), (.int (2) 0), (.int (0) 0), (.int (0) 0), (.int (3) 0), (.ref 751), (.bool true), (.int (273) 0), (.ref 752), .none, (.ref 753), (.ref 754), (.ref 755), (.int (1187) 0), (.int (752) 0), (.str ("/claim/cut.py" : Str) 1188)]), #[]⟩
noncomputable def ob757 (_P : Params) : Obj := ⟨(.type "function"), none, (.func (fnOf ("_law_spelled" : Str) ("_law_spelled" : Str) f_law_spelled_p f_law_spelled_b f_law_spelled_s .none .none .none (.str ("law_op0201_02" : Str) 1180) none (.ref 756) .none)), #[]⟩
noncomputable def ob761 (_P : Params) : Obj := ⟨(.type "code"), none, (.fields #[(.str ("_law_turned" : Str) 1190), (.str ("_law_turned" : Str) 1191), (.str ("/claim/cut.py" : Str) 1192), (.int (760) 0), (.int (1) 0), (.int (0) 0), (.int (0) 0), (.int (3) 0), (.ref 758), (.bool true), (.int (273) 0), (.ref 759), .none, .none, .none, (.ref 760), (.int (1193) 0), (.int (760) 0), (.str ("/claim/cut.py" : Str) 1194)]), #[]⟩
noncomputable def ob762 (_P : Params) : Obj := ⟨(.type "function"), none, (.func (fnOf ("_law_turned" : Str) ("_law_turned" : Str) f_law_turned_p f_law_turned_b f_law_turned_s .none .none .none (.str ("law_op0201_02" : Str) 1180) none (.ref 761) .none)), #[]⟩
noncomputable def ob766 (_P : Params) : Obj := ⟨(.type "code"), none, (.fields #[(.str ("_law_deed" : Str) 1196), (.str ("_law_deed" : Str) 1197), (.str ("/claim/cut.py" : Str) 1198), (.int (763) 0), (.int (2) 0), (.int (0) 0), (.int (0) 0), (.int (3) 0), (.ref 763), (.bool true), (.int (273) 0), (.ref 764), .none, .none, .none, (.ref 765), (.int (1199) 0), (.int (763) 0), (.str ("/claim/cut.py" : Str) 1200)]), #[]⟩
noncomputable def ob767 (_P : Params) : Obj := ⟨(.type "function"), none, (.func (fnOf ("_law_deed" : Str) ("_law_deed" : Str) f_law_deed_p f_law_deed_b f_law_deed_s .none .none .none (.str ("law_op0201_02" : Str) 1180) none (.ref 766) .none)), #[]⟩
noncomputable def ob773 (_P : Params) : Obj := ⟨(.type "code"), none, (.fields #[(.str ("_law_place" : Str) 1202), (.str ("_law_place" : Str) 1203), (.str ("/claim/cut.py" : Str) 1204), (.int (771) 0), (.int (5) 0), (.int (0) 0), (.int (0) 0), (.int (3) 0), (.ref 768), (.bool true), (.int (273) 0), (.ref 769), .none, (.ref 770), (.ref 771), (.ref 772), (.int (1212) 0), (.int (771) 0), (.str ("/claim/cut.py" : Str) 1213)]), #[]⟩
noncomputable def ob774 (_P : Params) : Obj := ⟨(.type "function"), none, (.func (fnOf ("_law_place" : Str) ("_law_place" : Str) f_law_place_p f_law_place_b f_law_place_s .none .none .none (.str ("law_op0201_02" : Str) 1180) none (.ref 773) .none)), #[]⟩
noncomputable def ob778 (_P : Params) : Obj := ⟨(.type "code"), none, (.fields #[(.str ("law" : Str) 1215), (.str ("law" : Str) 1216), (.str ("/claim/cut.py" : Str) 1217), (.int (779) 0), (.int (1) 0), (.int (0) 0), (.int (0) 0), (.int (3) 0), (.ref 775), (.bool true), (.int (273) 0), (.ref 776), .none, .none, .none, (.ref 777), (.int (1218) 0), (.int (779) 0), (.str ("/claim/cut.py" : Str) 1219)]), #[]⟩
noncomputable def ob779 (_P : Params) : Obj := ⟨(.type "function"), none, (.func (fnOf ("law" : Str) ("law" : Str) flaw_p flaw_b flaw_s .none .none .none (.str ("law_op0201_02" : Str) 1180) none (.ref 778) .none)), #[]⟩
noncomputable def K : Params → Frag := fun P => (nat_lit 2, ob2 P) :: (nat_lit 3, ob3 P) :: (nat_lit 45, ob45 P) :: (nat_lit 46, ob46 P) :: (nat_lit 47, ob47 P) :: (nat_lit 48, ob48 P) :: (nat_lit 54, ob54 P) :: (nat_lit 55, ob55 P) :: (nat_lit 68, ob68 P) :: (nat_lit 69, ob69 P) :: (nat_lit 95, ob95 P) :: (nat_lit 96, ob96 P) :: (nat_lit 98, ob98 P) :: (nat_lit 99, ob99 P) :: (nat_lit 100, ob100 P) :: (nat_lit 125, ob125 P) :: (nat_lit 126, ob126 P) :: (nat_lit 356, ob356 P) :: (nat_lit 366, ob366 P) :: (nat_lit 372, ob372 P) :: (nat_lit 373, ob373 P) :: (nat_lit 379, ob379 P) :: (nat_lit 380, ob380 P) :: (nat_lit 386, ob386 P) :: (nat_lit 387, ob387 P) :: (nat_lit 542, ob542 P) :: (nat_lit 548, ob548 P) :: (nat_lit 549, ob549 P) :: (nat_lit 602, ob602 P) :: (nat_lit 603, ob603 P) :: (nat_lit 655, ob655 P) :: (nat_lit 661, ob661 P) :: (nat_lit 662, ob662 P) :: (nat_lit 668, ob668 P) :: (nat_lit 669, ob669 P) :: (nat_lit 670, ob670 P) :: (nat_lit 698, ob698 P) :: (nat_lit 699, ob699 P) :: (nat_lit 705, ob705 P) :: (nat_lit 706, ob706 P) :: (nat_lit 727, ob727 P) :: (nat_lit 728, ob728 P) :: (nat_lit 734, ob734 P) :: (nat_lit 735, ob735 P) :: (nat_lit 737, ob737 P) :: (nat_lit 738, ob738 P) :: (nat_lit 743, ob743 P) :: (nat_lit 749, ob749 P) :: (nat_lit 750, ob750 P) :: (nat_lit 756, ob756 P) :: (nat_lit 757, ob757 P) :: (nat_lit 761, ob761 P) :: (nat_lit 762, ob762 P) :: (nat_lit 766, ob766 P) :: (nat_lit 767, ob767 P) :: (nat_lit 773, ob773 P) :: (nat_lit 774, ob774 P) :: (nat_lit 778, ob778 P) :: (nat_lit 779, ob779 P) :: []
def KA : List Addr := nat_lit 2 :: nat_lit 3 :: nat_lit 45 :: nat_lit 46 :: nat_lit 47 :: nat_lit 48 :: nat_lit 54 :: nat_lit 55 :: nat_lit 68 :: nat_lit 69 :: nat_lit 95 :: nat_lit 96 :: nat_lit 98 :: nat_lit 99 :: nat_lit 100 :: nat_lit 125 :: nat_lit 126 :: nat_lit 356 :: nat_lit 366 :: nat_lit 372 :: nat_lit 373 :: nat_lit 379 :: nat_lit 380 :: nat_lit 386 :: nat_lit 387 :: nat_lit 542 :: nat_lit 548 :: nat_lit 549 :: nat_lit 602 :: nat_lit 603 :: nat_lit 655 :: nat_lit 661 :: nat_lit 662 :: nat_lit 668 :: nat_lit 669 :: nat_lit 670 :: nat_lit 698 :: nat_lit 699 :: nat_lit 705 :: nat_lit 706 :: nat_lit 727 :: nat_lit 728 :: nat_lit 734 :: nat_lit 735 :: nat_lit 737 :: nat_lit 738 :: nat_lit 743 :: nat_lit 749 :: nat_lit 750 :: nat_lit 756 :: nat_lit 757 :: nat_lit 761 :: nat_lit 762 :: nat_lit 766 :: nat_lit 767 :: nat_lit 773 :: nat_lit 774 :: nat_lit 778 :: nat_lit 779 :: []
-- _byteswap @ 46
-- reduce @ 55
-- _index @ 69
-- IOBase.__new__ @ 96
-- StringIO.__init__ @ 373
-- StringIO.__translated @ 380
-- StringIO.__check @ 387
-- StringIO.read @ 549
-- shlex.__init__ @ 662
-- shlex.punctuation_chars @ 669
-- shlex.get_token @ 699
-- shlex.read_token @ 706
-- shlex.__iter__ @ 728
-- shlex.__next__ @ 735
-- split @ 750
-- _law_spelled @ 757
-- _law_turned @ 762
-- _law_deed @ 767
-- _law_place @ 774
-- law @ 779
noncomputable def q : Program := { pw with main := { pw.main with body := pw.main.body.drop 31 } }
def loose : List Str := ["deque", "_wall", "_byteswap", "_initial_missing", "reduce", "_whence", "_index", "UnsupportedOperation", "IOBase", "BufferedIOBase", "TextIOBase", "BytesIO", "StringIO", "_kind", "_fspath", "_check_arg_types", "isabs", "join", "dirname", "shlex", "split", "_law_spelled", "_law_turned", "_law_deed", "_law_place"]
noncomputable def lawRec : DefRec := ⟨"law", flaw_p, flaw_b, flaw_s, posOf (stm pw.main.body 31)⟩
end Mine
end
section
open Lean Meta Elab PySem PySem.W PyProof.Rows Mine
local macro_rules | `(tactic| k_all) => `(tactic| exact allNe_of (by assumption) (by omega))
local macro_rules | `(tactic| k_all) => `(tactic| assumption)
local macro_rules | `(tactic| k_room) => `(tactic| ktr_room)
local macro_rules | `(tactic| k_ne) => `(tactic| (refine neN ?_; (try dsimp only); with_reducible first | exact Nat.ne_of_lt (by assumption) | exact Nat.ne_of_gt (by assumption) | (refine' Nat.ne_of_gt (And.left ?h); case h => assumption) | (refine' Nat.ne_of_gt (And.left (And.right ?h)); case h => assumption) | (refine' Nat.ne_of_gt (And.left (And.right (And.right ?h))); case h => assumption) | (refine' Nat.ne_of_gt (And.left (And.right (And.right (And.right ?h)))); case h => assumption) | (refine' Nat.ne_of_gt (And.left (And.right (And.right (And.right (And.right ?h))))); case h => assumption) | (refine' Nat.ne_of_gt (And.left (And.right (And.right (And.right (And.right (And.right ?h)))))); case h => assumption) | (refine' Nat.ne_of_gt (And.left (And.right (And.right (And.right (And.right (And.right (And.right ?h))))))); case h => assumption)))
local macro_rules | `(tactic| walk_at "execs") => `(tactic| (k_here; first | unfold fStringIO_read_b | unfold f_index_b | unfold fStringIO___check_b | unfold fshlex_punctuation_chars_b | unfold fshlex_get_token_b | unfold fshlex___next___b | unfold fshlex___iter___b | unfold fIOBase___new___b | unfold fshlex___init___b | unfold fsplit_b | unfold f_law_spelled_b | unfold f_law_place_b))
local macro_rules | `(tactic| walk_at $s:str) => `(tactic| k_extra $s)
section
open Lean Meta Elab PySem PySem.W PyProof.Rows
set_option maxRecDepth 100000
set_option maxHeartbeats 0
set_option Elab.async false
set_option linter.unusedVariables false
namespace Mine
theorem fill : (fun (_ : Params → Frag) (_ : OpenLaw) => True) K rw1 := by k_fill; trivial
theorem allNe_of {b d : Nat} {l : List (Addr × Obj)} (h : AllLt b l) (hd : b ≤ d) : ∀ p ∈ l, p.1 ≠ d := by
  intro p hp
  induction l with
  | nil => cases hp
  | cons x r ih =>
    rcases List.mem_cons.mp hp with rfl | hp
    · exact Nat.ne_of_lt (Nat.lt_of_lt_of_le h.1 hd)
    · exact ih h.2 hp
theorem kw1 : True := by
  k_with_none
  k_with "c_enter" => (refine' code_def ?k1 ?k2 ?k3 ?k4 ?k5 ?kA ?kF ?kK ?k6 ?k7 ?zk8 ?zk9 ?kB ?_ ?c2 ?c3 ?c4 ?c5; (case kA => exact rfl); (case kF => exact rfl); (case kK => assumption); (case k1 => k_asm); (case k2 => k_asm); (case k3 => k_asm); (case k4 => k_asm); (case k5 => k_asm); (case k6 => k_is); (case k7 => k_is); (case zk8 => ktr_room); (case zk9 => first | exact BindsTo.of_eq rfl | exact binds_K (by k_in) rfl (by k_is) rfl rfl rfl | fail "c_enter: the arguments"); (case c5 => decide); (case kB => exact locs rfl); (case c2 => exact rfl); (case c3 => exact rfl); (case c4 => exact rfl); k_whole; intro zg' zL' zh' zFG' zF' zN' zB' zX' zT'; (try dsimp only); (try k_fold))
  trivial
open PySem.Builtin.Str in
theorem idx_mid (i j n : Nat) (h1 : i ≤ j) (h2 : j ≤ n) : strSliceIndices (some (i : Int)) (some (j : Int)) 1 n = (List.range (j - i)).map (i + ·) := by
  unfold strSliceIndices sliceRange
  simp only [show (1 : Int) > 0 by decide, if_true]
  have e1 : ¬ ((i : Int) < 0) := by omega
  have e2 : ¬ ((j : Int) < 0) := by omega
  simp only [e1, e2, if_false]
  have e3 : max 0 (min (i : Int) (n : Int)) = i := by omega
  have e4 : max 0 (min (j : Int) (n : Int)) = j := by omega
  rw [e3, e4]
  by_cases h : (i : Int) < j
  · rw [if_pos h]
    have : (((j : Int) - i + 1 - 1) / 1).toNat = j - i := by omega
    rw [this]
    refine List.map_congr_left fun k _ => ?_
    omega
  · rw [if_neg h]
    have : j - i = 0 := by omega
    rw [this]
    rfl
theorem filterMap_mid (l : List Nat) (i k : Nat) (h : i + k ≤ l.length) : ((List.range k).map (i + ·)).filterMap (fun j => l[j]?) = (l.drop i).take k := by
  induction k with
  | zero => simp
  | succ k ih =>
    rw [List.range_succ, List.map_append, List.filterMap_append, ih (by omega), List.take_add_one]
    simp only [List.map_cons, List.map_nil, List.filterMap_cons, List.filterMap_nil, List.getElem?_drop]
    have : i + k < l.length := by omega
    rw [List.getElem?_eq_getElem this]
    rfl
theorem slice_mid {x : Str} {l : List Nat} (hx : x.cps.toList = l) (i j : Nat) (h1 : i ≤ j) (h2 : j ≤ l.length) : Txt.slice x (some (i : Int)) (some (j : Int)) = ⟨((l.drop i).take (j - i)).toArray⟩ := by
  have hl : x.length = l.length := by
    show x.cps.size = _
    rw [← Array.length_toList, hx]
  unfold Txt.slice
  rw [idx_mid i j _ h1 (by omega)]
  have f : ((List.range (j - i)).map (i + ·)).filterMap (fun k => x.cps[k]?) = (l.drop i).take (j - i) := by
    rw [← filterMap_mid l i (j - i) (by omega)]
    congr 1
    funext k
    rw [← hx, Array.getElem?_toList]
  rw [f]
  split
  · rename_i h
    simp only [beq_self_eq_true, Bool.true_and, List.length_map, List.length_range, beq_iff_eq] at h
    have i0 : i = 0 := by omega
    have jl : j - i = l.length := by omega
    rw [i0, List.drop_zero, show j - 0 = l.length by omega, List.take_length, ← hx]
  · rfl
theorem slice_one {x : Str} {pre rest : List Nat} {c : Nat} (hx : x.cps.toList = pre ++ c :: rest) : Txt.slice x (some (pre.length : Int)) (some ((pre.length : Int) + 1)) = ⟨#[c]⟩ := by
  have := slice_mid hx pre.length (pre.length + 1) (by omega) (by rw [List.length_append, List.length_cons]; omega)
  rw [show (((pre.length + 1 : Nat)) : Int) = (pre.length : Int) + 1 by omega] at this
  rw [this]
  simp
end Mine
end
section
open Lean Meta Elab PySem PySem.W PyProof.Rows
set_option maxRecDepth 100000
set_option maxHeartbeats 0
set_option Elab.async false
set_option linter.unusedVariables false
namespace Mine
theorem fillB : (fun (_ : Params → Frag) (_ : OpenLaw) => True) K rw1 := by k_fill; trivial
theorem kw2 : True := by
  k_with_none
  k_with "c_enter" => (refine' code_def ?k1 ?k2 ?k3 ?k4 ?k5 ?kA ?kF ?kK ?k6 ?k7 ?zk8 ?zk9 ?kB ?_ ?c2 ?c3 ?c4 ?c5; (case kA => exact rfl); (case kF => exact rfl); (case kK => assumption); (case k1 => k_asm); (case k2 => k_asm); (case k3 => k_asm); (case k4 => k_asm); (case k5 => k_asm); (case k6 => k_is); (case k7 => k_is); (case zk8 => ktr_room); (case zk9 => first | exact BindsTo.of_eq rfl | exact binds_K (by k_in) rfl (by k_is) rfl rfl rfl | fail "c_enter: the arguments"); (case c5 => decide); (case kB => exact locs rfl); (case c2 => exact rfl); (case c3 => exact rfl); (case c4 => exact rfl); k_whole; intro zg' zL' zh' zFG' zF' zN' zB' zX' zT'; (try dsimp only); (try k_fold))
  trivial

abbrev ioE (P : Params) (x : Str) (τ : Nat → Tok) (p : Int) (u : Tok) : List DictEntry :=
  [⟨PyData.keyHash P "_StringIO__newline", .str "_StringIO__newline" (τ 0), .str "\n" (τ 1)⟩, ⟨PyData.keyHash P "_StringIO__buf", .str "_StringIO__buf" (τ 2), .str x (τ 3)⟩, ⟨PyData.keyHash P "_StringIO__pos", .str "_StringIO__pos" (τ 4), .int p u⟩]

section
variable {w : World} {mean : ExcName → Option Value} {mg mb : Str → Option Value} {dp un : Nat} {gd : Option (List Code)} {cn : Str} {cs : Scope} {a : Addr} {ccd : Value} {cl : List (Str × Addr)} {outer : List Env} {A₀ : Around} {base h₀ : Heap} {L : Addr} {m : Str → Option Value} {news : List (Addr × Obj)} {s : Shared} {Q E : Value → Shared → Prop}

theorem read_c {io dio : Nat} {x : Str} {τ : Nat → Tok} {u t7 : Tok} {pre post : List Nat} (B : Below A₀ base outer h₀) (F : Fr h₀ L s.heap m) (X : (K w.params).In h₀) (N : News h₀ L s.heap ((io, instObj 603 dio) :: (dio, dictOf (ioE w.params x τ (pre.length : Nat) u) 3) :: news)) (T : Top q loose mean mg mb h₀) (hk : cs.kind = .function)
    (hx : x.cps.toList = pre ++ post) (hsz : x.length ≤ 1000) (hne : ∀ p ∈ news, p.1 ≠ dio) (hio : @Ne Nat io dio)
    (hd : dp + 3 < recursionLimit) (hu : un + 20 < cLine)
    (h0 : post = [] → ∀ t h' tk', Fr h₀ L h' m → News h₀ L h' ((io, instObj 603 dio) :: (dio, dictOf (ioE w.params x τ (pre.length : Nat) u) 3) :: news) → Q (.str "" t) { s with heap := h', toks := tk' })
    (h1 : ∀ c rest, post = c :: rest → ∀ t u' h' tk', Fr h₀ L h' m → News h₀ L h' ((io, instObj 603 dio) :: (dio, dictOf (ioE w.params x τ ((pre.length : Int) + 1) u') 3) :: news) → Q (.str ⟨#[c]⟩ t) { s with heap := h', toks := tk' }) :
    wpAny (model pw w) (ktrTop dp un gd cn cs L a ccd cl outer) (call (.ref 549) [.ref io, .int 1 t7]) Q E s := by
  have hlen : x.length = pre.length + post.length := by
    show x.cps.size = _
    rw [← Array.length_toList, hx, List.length_append]
  refine wpAny_call ?_
  k_dflt (walk_at "c_enter")
  k_steps
  · refine h0 (List.length_eq_zero_iff.mp (by omega)) _ _ _ (by k_asm) (by k_asm)
  · cases post with
    | nil => exfalso; simp only [List.length_nil] at hlen; omega
    | cons c rest =>
      rw [slice_one hx]
      exact h1 c rest rfl _ _ _ _ (by k_asm) (by k_asm)
  · cases post with
    | nil => exfalso; simp only [List.length_nil] at hlen; omega
    | cons c rest =>
      have hr : ((x.length : Nat) : Int) = (pre.length : Int) + 1 := by simp only [List.length_cons] at hlen; omega
      simp only [hr] at *
      rw [slice_one hx]
      exact h1 c rest rfl _ _ _ _ (by k_asm) (by k_asm)
end
end Mine
end
section
open Lean Meta Elab PySem PySem.W PyProof.Rows
set_option maxRecDepth 100000
set_option maxHeartbeats 0
set_option Elab.async false
set_option linter.unusedVariables false
namespace Mine
theorem fillC : (fun (_ : Params → Frag) (_ : OpenLaw) => True) K rw1 := by k_fill; trivial
theorem kw3 : True := by
  k_with_none
  k_with "c_enter" => (refine' code_def ?k1 ?k2 ?k3 ?k4 ?k5 ?kA ?kF ?kK ?k6 ?k7 ?zk8 ?zk9 ?kB ?_ ?c2 ?c3 ?c4 ?c5; (case kA => exact rfl); (case kF => exact rfl); (case kK => assumption); (case k1 => k_asm); (case k2 => k_asm); (case k3 => k_asm); (case k4 => k_asm); (case k5 => k_asm); (case k6 => k_is); (case k7 => k_is); (case zk8 => ktr_room); (case zk9 => first | exact BindsTo.of_eq rfl | exact binds_K (by k_in) rfl (by k_is) rfl rfl rfl | fail "c_enter: the arguments"); (case c5 => decide); (case kB => exact locs rfl); (case c2 => exact rfl); (case c3 => exact rfl); (case c4 => exact rfl); k_whole; intro zg' zL' zh' zFG' zF' zN' zB' zX' zT'; (try dsimp only); (try k_fold))
  trivial
def whileBody : Stmt → List Stmt
  | .While _ b _ _ => b
  | _ => []
noncomputable def rt1 : Stmt := litOf (stm (whileBody (stm fshlex_read_token_b 2)) 0) (by conv => rhs; whnf)
noncomputable def rt2 : Stmt := litOf (stm (whileBody (stm fshlex_read_token_b 2)) 1) (by conv => rhs; whnf)
noncomputable def rt3 : Stmt := litOf (stm (whileBody (stm fshlex_read_token_b 2)) 2) (by conv => rhs; whnf)
noncomputable def rt4 : Stmt := litOf (stm (whileBody (stm fshlex_read_token_b 2)) 3) (by conv => rhs; whnf)
abbrev lexE (P : Params) (W : Str) (τ : Nat → Tok) (io pb fs : Nat) (stv : Value) (ln : Int) (tl : Tok) (tok : Str) (tt : Tok) : List DictEntry :=
  [⟨PyData.keyHash P "instream", .str "instream" (τ 0), .ref io⟩, ⟨PyData.keyHash P "infile", .str "infile" (τ 1), .none⟩, ⟨PyData.keyHash P "posix", .str "posix" (τ 2), .bool true⟩, ⟨PyData.keyHash P "eof", .str "eof" (τ 3), .none⟩,
   ⟨PyData.keyHash P "commenters", .str "commenters" (τ 4), .str "" (τ 24)⟩, ⟨PyData.keyHash P "wordchars", .str "wordchars" (τ 5), .str W (τ 25)⟩, ⟨PyData.keyHash P "whitespace", .str "whitespace" (τ 6), .str " \t\r\n" (τ 26)⟩,
   ⟨PyData.keyHash P "whitespace_split", .str "whitespace_split" (τ 7), .bool true⟩, ⟨PyData.keyHash P "quotes", .str "quotes" (τ 8), .str "'\"" (τ 28)⟩, ⟨PyData.keyHash P "escape", .str "escape" (τ 9), .str "\\" (τ 29)⟩,
   ⟨PyData.keyHash P "escapedquotes", .str "escapedquotes" (τ 10), .str "\"" (τ 30)⟩, ⟨PyData.keyHash P "state", .str "state" (τ 11), stv⟩, ⟨PyData.keyHash P "pushback", .str "pushback" (τ 12), .ref pb⟩, ⟨PyData.keyHash P "lineno", .str "lineno" (τ 13), .int ln tl⟩,
   ⟨PyData.keyHash P "debug", .str "debug" (τ 14), .int 0 (τ 34)⟩, ⟨PyData.keyHash P "token", .str "token" (τ 15), .str tok tt⟩, ⟨PyData.keyHash P "filestack", .str "filestack" (τ 16), .ref fs⟩, ⟨PyData.keyHash P "source", .str "source" (τ 17), .none⟩,
   ⟨PyData.keyHash P "_punctuation_chars", .str "_punctuation_chars" (τ 18), .str "" (τ 38)⟩]
theorem kw4 : True := by
  k_with "call ref" => (k_here; k_dflt (refine' read_c ?rB ?rF ?rX ?rN ?rT ?rK ?rx ?rz ?rn ?ri ?rd ?ru ?_ ?_; (case rB => k_asm); (case rF => k_asm); (case rX => k_asm); (case rN => k_asm); (case rT => k_asm); (case rK => first | exact rfl | assumption); (case rx => assumption); (case rz => assumption); (case rn => assumption); (case ri => assumption); (case rd => ktr_room); (case ru => ktr_units); (all_goals first | refine fun (ze9 : _ = ([] : List Nat)) zt9 zh9 ztk9 zF9 zN9 => ?_ | intro zc9 zrest9 ze9 zt9 zu9 zh9 ztk9 zF9 zN9); (all_goals (try dsimp only))))
  trivial
section
variable {w : World} {mean : ExcName → Option Value} {mg mb : Str → Option Value} {dp un : Nat} {gd : Option (List Code)} {outer : List Env} {A₀ : Around} {base h₀ : Heap} {L : Addr} {m : Str → Option Value} {news : List (Addr × Obj)} {s : Shared} {Q : Flow → Shared → Prop} {E : Value → Shared → Prop}

theorem pre_c {rest : List Stmt} {m₀ : Str → Option Value} {lex dlex io dio pb fs : Nat} {x W : Str} {τ σ : Nat → Tok} {u : Tok} {pre post : List Nat} {stv : Value} {ln : Int} {tl tt : Tok} {tok : Str}
    (B : Below A₀ base outer h₀) (F : Fr h₀ L s.heap (fun y => if y = "self" then some (.ref lex) else m₀ y)) (X : (K w.params).In h₀)
    (N : News h₀ L s.heap ((io, instObj 603 dio) :: (dio, dictOf (ioE w.params x σ (pre.length : Nat) u) 3) :: (lex, instObj 738 dlex) :: (dlex, dictOf (lexE w.params W τ io pb fs stv ln tl tok tt) 19) :: news)) (T : Top q loose mean mg mb h₀)
    (hx : x.cps.toList = pre ++ post) (hsz : x.length ≤ 1000) (hne : ∀ p ∈ ((lex, instObj 738 dlex) :: (dlex, dictOf (lexE w.params W τ io pb fs stv ln tl tok tt) 19) :: news), p.1 ≠ dio) (hio : @Ne Nat io dio)
    (hne2 : ∀ p ∈ news, p.1 ≠ dlex) (h12 : @LT.lt Nat _ dlex lex) (h13 : @LT.lt Nat _ lex dio) (h14 : @LT.lt Nat _ dio io)
    (hd : dp + 4 < recursionLimit) (hu : un + 30 < cLine)
    (hE : post = [] → ∀ t h' tk', Fr h₀ L h' (fun y => if y = "nextchar" then some (.str "" t) else if y = "self" then some (.ref lex) else m₀ y) →
      News h₀ L h' ((io, instObj 603 dio) :: (dio, dictOf (ioE w.params x σ (pre.length : Nat) u) 3) :: (lex, instObj 738 dlex) :: (dlex, dictOf (lexE w.params W τ io pb fs stv ln tl tok tt) 19) :: news) →
      wpAny (model pw w) (ktrTop dp un gd "shlex.read_token" fshlex_read_token_s L 706 (.ref 705) [] outer) (execs rest (envOf "shlex.read_token" fshlex_read_token_s L 706 (.ref 705))) Q E { s with heap := h', toks := tk' })
    (hC : ∀ c post', post = c :: post' → ∀ t u' ln' tl' h' tk', Fr h₀ L h' (fun y => if y = "nextchar" then some (.str ⟨#[c]⟩ t) else if y = "self" then some (.ref lex) else m₀ y) →
      News h₀ L h' ((io, instObj 603 dio) :: (dio, dictOf (ioE w.params x σ ((pre.length : Int) + 1) u') 3) :: (lex, instObj 738 dlex) :: (dlex, dictOf (lexE w.params W τ io pb fs stv ln' tl' tok tt) 19) :: news) →
      wpAny (model pw w) (ktrTop dp un gd "shlex.read_token" fshlex_read_token_s L 706 (.ref 705) [] outer) (execs rest (envOf "shlex.read_token" fshlex_read_token_s L 706 (.ref 705))) Q E { s with heap := h', toks := tk' }) :
    wpAny (model pw w) (ktrTop dp un gd "shlex.read_token" fshlex_read_token_s L 706 (.ref 705) [] outer) (execs (rt1 :: rt2 :: rt3 :: rest) (envOf "shlex.read_token" fshlex_read_token_s L 706 (.ref 705))) Q E s := by
  unfold rt1 rt2 rt3
  k_steps
  all_goals first
    | exact hE (by assumption) _ _ _ (by k_asm) (by k_asm)
    | exact hC _ _ (by assumption) _ _ _ _ _ _ (by k_asm) (by k_asm)
    | (fail)
end
end Mine
end
section
open Lean Meta Elab PySem PySem.W PyProof.Rows
set_option maxRecDepth 100000
set_option maxHeartbeats 0
set_option Elab.async false
set_option linter.unusedVariables false
namespace Mine
theorem in_ch {M : Program} {w : World} {A : Around} {E : Value → Shared → Prop} {s : Shared} {Q : Value → Shared → Prop} {c : Nat} {Y : Str} {t t' : Tok} {b : Bool} (h : Y.cps.toList.contains c = b) (hQ : Q (.bool b) s) :
    wpAny (model M w) A (compareOp .In (.str ⟨#[c]⟩ t) (.str Y t')) Q E s := by
  refine SB.contains ?_
  have e : Txt.contains Y ⟨#[c]⟩ = b := by
    show (!(Builtin.Str.occurrences Y ⟨#[c]⟩ 0 Y.length 1).isEmpty) = b
    rw [StrLaws.found_one, ← h, Bool.eq_iff_iff]
    simp
  rw [e]; exact hQ
theorem notin_ch {M : Program} {w : World} {A : Around} {E : Value → Shared → Prop} {s : Shared} {Q : Value → Shared → Prop} {c : Nat} {Y : Str} {t t' : Tok} {b : Bool} (h : Y.cps.toList.contains c = b) (hQ : Q (.bool (!b)) s) :
    wpAny (model M w) A (compareOp .NotIn (.str ⟨#[c]⟩ t) (.str Y t')) Q E s := by
  refine SB.notContains ?_
  have e : Txt.contains Y ⟨#[c]⟩ = b := by
    show (!(Builtin.Str.occurrences Y ⟨#[c]⟩ 0 Y.length 1).isEmpty) = b
    rw [StrLaws.found_one, ← h, Bool.eq_iff_iff]
    simp
  rw [e]; exact hQ
theorem in_b {M : Program} {w : World} {A : Around} {E : Value → Shared → Prop} {s : Shared} {Q : Value → Shared → Prop} {X Y : Str} {t t' : Tok} {b : Bool} (h : Txt.contains Y X = b) (hQ : Q (.bool b) s) :
    wpAny (model M w) A (compareOp .In (.str X t) (.str Y t')) Q E s := by
  refine SB.contains ?_
  rw [h]; exact hQ
theorem eq_b {M : Program} {w : World} {A : Around} {E : Value → Shared → Prop} {s : Shared} {Q : Value → Shared → Prop} {X Y : Str} {t t' : Tok} {b : Bool} (h : (X == Y) = b) (hQ : Q (.bool b) s) :
    wpAny (model M w) A (compareOp .Eq (.str X t) (.str Y t')) Q E s := by
  refine eq_str ?_
  rw [h]; exact hQ
theorem truthy_b {M : Program} {w : World} {A : Around} {E : Value → Shared → Prop} {s : Shared} {Q : Bool → Shared → Prop} {x : Str} {t : Tok} {b : Bool} (e : ((x.length : Int) != 0) = b) (hl : x.length ≤ 1000000) (h : ∀ k, Q b { s with toks := k }) :
    wpAny (model M w) A (truthy (.str x t)) Q E s := PySem.P.truthy_str (by omega) (by rw [e]; exact h _)
theorem truthy_ch {M : Program} {w : World} {A : Around} {E : Value → Shared → Prop} {s : Shared} {Q : Bool → Shared → Prop} {c : Nat} {t : Tok} (h : ∀ k, Q true { s with toks := k }) :
    wpAny (model M w) A (truthy (.str ⟨#[c]⟩ t)) Q E s := truthy_b (by simp [Str.length]) (by simp [Str.length]) h
theorem truthy_nil {M : Program} {w : World} {A : Around} {E : Value → Shared → Prop} {s : Shared} {Q : Bool → Shared → Prop} {t : Tok} (h : ∀ k, Q false { s with toks := k }) :
    wpAny (model M w) A (truthy (.str (Str.ofString "") t)) Q E s := truthy_b (by decide +kernel) (by decide +kernel) h
theorem news_tail {h₀ h : Heap} {L : Addr} {x : Addr × Obj} {l : List (Addr × Obj)} (N : News h₀ L h (x :: l)) : News h₀ L h l := fun p hp => N p (List.mem_cons_of_mem _ hp)
theorem truthy_p {M : Program} {w : World} {A : Around} {E : Value → Shared → Prop} {s : Shared} {Q : Bool → Shared → Prop} {x : Str} {t : Tok} (e : 0 < x.length) (hl : x.length ≤ 1000) (h : ∀ k, Q true { s with toks := k }) :
    wpAny (model M w) A (truthy (.str x t)) Q E s := truthy_b (by simp; omega) (by omega) h
theorem len0 {x : Str} (h : x.length = 0) : x = Str.ofString "" := by
  obtain ⟨⟨l⟩⟩ := x
  have : l = [] := List.length_eq_zero_iff.mp h
  subst this
  decide +kernel
theorem in_nil {M : Program} {w : World} {A : Around} {E : Value → Shared → Prop} {s : Shared} {Q : Value → Shared → Prop} {c : Nat} {t t' : Tok} (hQ : Q (.bool false) s) :
    wpAny (model M w) A (compareOp .In (.str ⟨#[c]⟩ t) (.str (Str.ofString "") t')) Q E s := in_ch (b := false) rfl hQ
theorem notin_nil {M : Program} {w : World} {A : Around} {E : Value → Shared → Prop} {s : Shared} {Q : Value → Shared → Prop} {c : Nat} {t t' : Tok} (hQ : Q (.bool true) s) :
    wpAny (model M w) A (compareOp .NotIn (.str ⟨#[c]⟩ t) (.str (Str.ofString "") t')) Q E s := notin_ch (b := false) rfl hQ
end Mine
end
section
open Lean Meta Elab PySem PySem.W PyProof.Rows
set_option maxRecDepth 100000
set_option maxHeartbeats 0
set_option Elab.async false
set_option linter.unusedVariables false
namespace Mine
theorem fillD : (fun (_ : Params → Frag) (_ : OpenLaw) => True) K rw1 := by k_fill; trivial
theorem kw5 : True := by
  k_with_none
  k_with "c_enter" => (refine' code_def ?k1 ?k2 ?k3 ?k4 ?k5 ?kA ?kF ?kK ?k6 ?k7 ?zk8 ?zk9 ?kB ?_ ?c2 ?c3 ?c4 ?c5; (case kA => exact rfl); (case kF => exact rfl); (case kK => assumption); (case k1 => k_asm); (case k2 => k_asm); (case k3 => k_asm); (case k4 => k_asm); (case k5 => k_asm); (case k6 => k_is); (case k7 => k_is); (case zk8 => ktr_room); (case zk9 => first | exact BindsTo.of_eq rfl | exact binds_K (by k_in) rfl (by k_is) rfl rfl rfl | fail "c_enter: the arguments"); (case c5 => decide); (case kB => exact locs rfl); (case c2 => exact rfl); (case c3 => exact rfl); (case c4 => exact rfl); k_whole; intro zg' zL' zh' zFG' zF' zN' zB' zX' zT'; (try dsimp only); (try k_fold))
  k_with "compareOp In str str" => (k_here; (first | with_reducible refine in_ch (by with_reducible assumption) ?_ | with_reducible refine in_nil ?_ | with_reducible refine in_b (b := false) (by decide +kernel) ?_ | with_reducible refine in_b (b := true) (by decide +kernel) ?_))
  k_with "compareOp NotIn str str" => (k_here; (first | with_reducible refine notin_ch (by with_reducible assumption) ?_ | with_reducible refine notin_nil ?_))
  k_with "compareOp Eq str str" => (k_here; (first | with_reducible refine eq_b (by with_reducible assumption) ?_ | with_reducible refine eq_b (b := false) (by decide +kernel) ?_ | with_reducible refine eq_b (b := true) (by decide +kernel) ?_))
  k_with "truthy str" => (k_here; (first | with_reducible refine truthy_ch ?_ | with_reducible refine truthy_nil ?_ | with_reducible refine truthy_p (by with_reducible assumption) (by with_reducible assumption) ?_); intro zk9)
  trivial
abbrev fm (lex : Nat) (nc : Value) (qd : Bool) (te : Tok) (m₀ : Str → Option Value) : Str → Option Value := fun y => if y = "nextchar" then some nc else if y = "self" then some (.ref lex) else if y = "quoted" then some (.bool qd) else if y = "escapedstate" then some (.str " " te) else m₀ y
abbrev ws4 : Str := Str.ofString " \t\r\n"
abbrev qs2 : Str := Str.ofString "'\""
abbrev led (P : Params) (W x : Str) (τ σ : Nat → Tok) (lex dlex io dio pb fs : Nat) (p : Int) (u : Tok) (stv : Value) (ln : Int) (tl : Tok) (tok : Str) (tt : Tok) (news : List (Addr × Obj)) : List (Addr × Obj) :=
  (io, instObj 603 dio) :: (dio, dictOf (ioE P x σ p u) 3) :: (lex, instObj 738 dlex) :: (dlex, dictOf (lexE P W τ io pb fs stv ln tl tok tt) 19) :: news
noncomputable abbrev envT (L : Addr) : Env := envOf "shlex.read_token" fshlex_read_token_s L 706 (.ref 705)
noncomputable abbrev arT (dp un : Nat) (gd : Option (List Code)) (L : Addr) (outer : List Env) : Around := ktrTop dp un gd "shlex.read_token" fshlex_read_token_s L 706 (.ref 705) [] outer
theorem kw6 : True := by
  trivial
section
variable {w : World} {mean : ExcName → Option Value} {mg mb : Str → Option Value} {dp un : Nat} {gd : Option (List Code)} {outer : List Env} {A₀ : Around} {base h₀ : Heap} {L : Addr} {news : List (Addr × Obj)} {s : Shared} {Q : Flow → Shared → Prop} {E : Value → Shared → Prop}
  {m₀ : Str → Option Value} {lex dlex io dio pb fs : Nat} {x W tok : Str} {τ σ : Nat → Tok} {u tl tt t ts te : Tok} {ln p : Int} {qd : Bool} {c d : Nat}

theorem ch_a_other
    (B : Below A₀ base outer h₀) (F : Fr h₀ L s.heap (fm lex (.str ⟨#[c]⟩ t) qd te m₀)) (X : (K w.params).In h₀)
    (N : News h₀ L s.heap (led w.params W x τ σ lex dlex io dio pb fs p u (.str "a" ts) ln tl tok tt news)) (T : Top q loose mean mg mb h₀)
    (hne2 : ∀ p ∈ news, p.1 ≠ dlex) (h12 : @LT.lt Nat _ dlex lex) (h13 : @LT.lt Nat _ lex dio) (h14 : @LT.lt Nat _ dio io) (htok : tok.length ≤ 1000)
    (hd : dp + 4 < recursionLimit) (hu : un + 30 < cLine)
    {wc : Bool} (c1 : ws4.cps.toList.contains c = false) (c2 : qs2.cps.toList.contains c = false) (c3 : (Str.ofString "\\").cps.toList.contains c = false) (c4 : W.cps.toList.contains c = wc)
    (hQ : ∀ m' (t' : Tok) h' tk', m' "self" = some (.ref lex) → m' "quoted" = some (.bool qd) → m' "escapedstate" = some (.str " " te) → Fr h₀ L h' m' → News h₀ L h' (led w.params W x τ σ lex dlex io dio pb fs p u (.str "a" ts) ln tl (tok ++ ⟨#[c]⟩) t' news) → Q .next { s with heap := h', toks := tk' }) :
    wpAny (model pw w) (arT dp un gd L outer) (execs [rt4] (envT L)) Q E s := by
  all_goals unfold rt4
  k_steps
  all_goals first
    | exact hQ _ _ _ _ rfl rfl rfl (by k_asm) (by first | k_asm | exact news_tail (by k_asm))
    | (fail "END")

theorem ch_a_quote
    (B : Below A₀ base outer h₀) (F : Fr h₀ L s.heap (fm lex (.str ⟨#[c]⟩ t) qd te m₀)) (X : (K w.params).In h₀)
    (N : News h₀ L s.heap (led w.params W x τ σ lex dlex io dio pb fs p u (.str "a" ts) ln tl tok tt news)) (T : Top q loose mean mg mb h₀)
    (hne2 : ∀ p ∈ news, p.1 ≠ dlex) (h12 : @LT.lt Nat _ dlex lex) (h13 : @LT.lt Nat _ lex dio) (h14 : @LT.lt Nat _ dio io) (htok : tok.length ≤ 1000)
    (hd : dp + 4 < recursionLimit) (hu : un + 30 < cLine)
    (c1 : ws4.cps.toList.contains c = false) (c2 : qs2.cps.toList.contains c = true) (c3 : (Str.ofString "\\").cps.toList.contains c = false) (c4 : W.cps.toList.contains c = false)
    (hQ : ∀ m' (t' : Tok) h' tk', m' "self" = some (.ref lex) → m' "quoted" = some (.bool qd) → m' "escapedstate" = some (.str " " te) → Fr h₀ L h' m' → News h₀ L h' (led w.params W x τ σ lex dlex io dio pb fs p u (.str ⟨#[c]⟩ t) ln tl tok tt news) → Q .next { s with heap := h', toks := tk' }) :
    wpAny (model pw w) (arT dp un gd L outer) (execs [rt4] (envT L)) Q E s := by
  all_goals unfold rt4
  k_steps
  all_goals first
    | exact hQ _ 0 _ _ rfl rfl rfl (by k_asm) (by first | k_asm | exact news_tail (by k_asm))
    | (fail "END")

theorem ch_a_ws
    (B : Below A₀ base outer h₀) (F : Fr h₀ L s.heap (fm lex (.str ⟨#[c]⟩ t) qd te m₀)) (X : (K w.params).In h₀)
    (N : News h₀ L s.heap (led w.params W x τ σ lex dlex io dio pb fs p u (.str "a" ts) ln tl tok tt news)) (T : Top q loose mean mg mb h₀)
    (hne2 : ∀ p ∈ news, p.1 ≠ dlex) (h12 : @LT.lt Nat _ dlex lex) (h13 : @LT.lt Nat _ lex dio) (h14 : @LT.lt Nat _ dio io) (htok : tok.length ≤ 1000)
    (hd : dp + 4 < recursionLimit) (hu : un + 30 < cLine)
    (c1 : ws4.cps.toList.contains c = true) (hq : tok.length ≠ 0 ∨ qd = true)
    (hQ : ∀ m' (t' : Tok) h' tk', m' "self" = some (.ref lex) → m' "quoted" = some (.bool qd) → m' "escapedstate" = some (.str " " te) → Fr h₀ L h' m' → News h₀ L h' (led w.params W x τ σ lex dlex io dio pb fs p u (.str " " t') ln tl tok tt news) → Q .brk { s with heap := h', toks := tk' }) :
    wpAny (model pw w) (arT dp un gd L outer) (execs [rt4] (envT L)) Q E s := by
  have hb : 0 < tok.length ∨ tok = Str.ofString "" ∧ qd = true := by
    by_cases h : tok.length = 0
    · exact .inr ⟨len0 h, hq.resolve_left (fun n => n h)⟩
    · exact .inl (by omega)
  clear hq
  rcases hb with hb | ⟨rfl, rfl⟩
  all_goals unfold rt4
  k_steps
  all_goals first
    | exact hQ _ _ _ _ rfl rfl rfl (by k_asm) (by first | k_asm | exact news_tail (by k_asm))
    | (fail "END")

theorem ch_sp_ws
    (B : Below A₀ base outer h₀) (F : Fr h₀ L s.heap (fm lex (.str ⟨#[c]⟩ t) qd te m₀)) (X : (K w.params).In h₀)
    (N : News h₀ L s.heap (led w.params W x τ σ lex dlex io dio pb fs p u (.str " " ts) ln tl tok tt news)) (T : Top q loose mean mg mb h₀)
    (hne2 : ∀ p ∈ news, p.1 ≠ dlex) (h12 : @LT.lt Nat _ dlex lex) (h13 : @LT.lt Nat _ lex dio) (h14 : @LT.lt Nat _ dio io) (htok : tok.length ≤ 1000)
    (hd : dp + 4 < recursionLimit) (hu : un + 30 < cLine)
    (c1 : ws4.cps.toList.contains c = true) (hb : tok = Str.ofString "") (hq : qd = false)
    (hQ : ∀ m' (t' : Tok) h' tk', m' "self" = some (.ref lex) → m' "quoted" = some (.bool false) → m' "escapedstate" = some (.str " " te) → Fr h₀ L h' m' → News h₀ L h' (led w.params W x τ σ lex dlex io dio pb fs p u (.str " " ts) ln tl tok tt news) → Q .cont { s with heap := h', toks := tk' }) :
    wpAny (model pw w) (arT dp un gd L outer) (execs [rt4] (envT L)) Q E s := by
  subst hq hb
  all_goals unfold rt4
  k_steps
  all_goals first
    | exact hQ _ 0 _ _ rfl rfl rfl (by k_asm) (by first | k_asm | exact news_tail (by k_asm))
    | (fail "END")

theorem ch_sp_quote
    (B : Below A₀ base outer h₀) (F : Fr h₀ L s.heap (fm lex (.str ⟨#[c]⟩ t) qd te m₀)) (X : (K w.params).In h₀)
    (N : News h₀ L s.heap (led w.params W x τ σ lex dlex io dio pb fs p u (.str " " ts) ln tl tok tt news)) (T : Top q loose mean mg mb h₀)
    (hne2 : ∀ p ∈ news, p.1 ≠ dlex) (h12 : @LT.lt Nat _ dlex lex) (h13 : @LT.lt Nat _ lex dio) (h14 : @LT.lt Nat _ dio io) (htok : tok.length ≤ 1000)
    (hd : dp + 4 < recursionLimit) (hu : un + 30 < cLine)
    (c1 : ws4.cps.toList.contains c = false) (c2 : qs2.cps.toList.contains c = true) (c3 : (Str.ofString "\\").cps.toList.contains c = false) (c4 : W.cps.toList.contains c = false)
    (hQ : ∀ m' (t' : Tok) h' tk', m' "self" = some (.ref lex) → m' "quoted" = some (.bool qd) → m' "escapedstate" = some (.str " " te) → Fr h₀ L h' m' → News h₀ L h' (led w.params W x τ σ lex dlex io dio pb fs p u (.str ⟨#[c]⟩ t) ln tl tok tt news) → Q .next { s with heap := h', toks := tk' }) :
    wpAny (model pw w) (arT dp un gd L outer) (execs [rt4] (envT L)) Q E s := by
  all_goals unfold rt4
  k_steps
  all_goals first
    | exact hQ _ 0 _ _ rfl rfl rfl (by k_asm) (by first | k_asm | exact news_tail (by k_asm))
    | (fail "END")

theorem ch_sp_other
    (B : Below A₀ base outer h₀) (F : Fr h₀ L s.heap (fm lex (.str ⟨#[c]⟩ t) qd te m₀)) (X : (K w.params).In h₀)
    (N : News h₀ L s.heap (led w.params W x τ σ lex dlex io dio pb fs p u (.str " " ts) ln tl tok tt news)) (T : Top q loose mean mg mb h₀)
    (hne2 : ∀ p ∈ news, p.1 ≠ dlex) (h12 : @LT.lt Nat _ dlex lex) (h13 : @LT.lt Nat _ lex dio) (h14 : @LT.lt Nat _ dio io) (htok : tok.length ≤ 1000)
    (hd : dp + 4 < recursionLimit) (hu : un + 30 < cLine)
    {wc : Bool} (c1 : ws4.cps.toList.contains c = false) (c2 : qs2.cps.toList.contains c = false) (c3 : (Str.ofString "\\").cps.toList.contains c = false) (c4 : W.cps.toList.contains c = wc)
    (hQ : ∀ m' (t' : Tok) h' tk', m' "self" = some (.ref lex) → m' "quoted" = some (.bool qd) → m' "escapedstate" = some (.str " " te) → Fr h₀ L h' m' → News h₀ L h' (led w.params W x τ σ lex dlex io dio pb fs p u (.str "a" t') ln tl ⟨#[c]⟩ t news) → Q .next { s with heap := h', toks := tk' }) :
    wpAny (model pw w) (arT dp un gd L outer) (execs [rt4] (envT L)) Q E s := by
  all_goals unfold rt4
  k_steps
  all_goals first
    | exact hQ _ _ _ _ rfl rfl rfl (by k_asm) (by first | k_asm | exact news_tail (by k_asm))
    | (fail "END")

theorem ch_q_same
    (B : Below A₀ base outer h₀) (F : Fr h₀ L s.heap (fm lex (.str ⟨#[c]⟩ t) qd te m₀)) (X : (K w.params).In h₀)
    (N : News h₀ L s.heap (led w.params W x τ σ lex dlex io dio pb fs p u (.str ⟨#[d]⟩ ts) ln tl tok tt news)) (T : Top q loose mean mg mb h₀)
    (hne2 : ∀ p ∈ news, p.1 ≠ dlex) (h12 : @LT.lt Nat _ dlex lex) (h13 : @LT.lt Nat _ lex dio) (h14 : @LT.lt Nat _ dio io) (htok : tok.length ≤ 1000)
    (hd : dp + 4 < recursionLimit) (hu : un + 30 < cLine)
    (d1 : ((⟨#[d]⟩ : Str) == Str.ofString " ") = false) (d2 : qs2.cps.toList.contains d = true) (c1 : ((⟨#[c]⟩ : Str) == ⟨#[d]⟩) = true)
    (hQ : ∀ m' (t' : Tok) h' tk', m' "self" = some (.ref lex) → m' "quoted" = some (.bool true) → m' "escapedstate" = some (.str " " te) → Fr h₀ L h' m' → News h₀ L h' (led w.params W x τ σ lex dlex io dio pb fs p u (.str "a" t') ln tl tok tt news) → Q .next { s with heap := h', toks := tk' }) :
    wpAny (model pw w) (arT dp un gd L outer) (execs [rt4] (envT L)) Q E s := by
  all_goals unfold rt4
  k_steps
  all_goals first
    | exact hQ _ _ _ _ rfl rfl rfl (by k_asm) (by first | k_asm | exact news_tail (by k_asm))
    | (fail "END")

theorem ch_q_other
    (B : Below A₀ base outer h₀) (F : Fr h₀ L s.heap (fm lex (.str ⟨#[c]⟩ t) qd te m₀)) (X : (K w.params).In h₀)
    (N : News h₀ L s.heap (led w.params W x τ σ lex dlex io dio pb fs p u (.str ⟨#[d]⟩ ts) ln tl tok tt news)) (T : Top q loose mean mg mb h₀)
    (hne2 : ∀ p ∈ news, p.1 ≠ dlex) (h12 : @LT.lt Nat _ dlex lex) (h13 : @LT.lt Nat _ lex dio) (h14 : @LT.lt Nat _ dio io) (htok : tok.length ≤ 1000)
    (hd : dp + 4 < recursionLimit) (hu : un + 30 < cLine)
    (d1 : ((⟨#[d]⟩ : Str) == Str.ofString " ") = false) (d2 : qs2.cps.toList.contains d = true) (c1 : ((⟨#[c]⟩ : Str) == ⟨#[d]⟩) = false) (c3 : (Str.ofString "\\").cps.toList.contains c = false)
    (hQ : ∀ m' (t' : Tok) h' tk', m' "self" = some (.ref lex) → m' "quoted" = some (.bool true) → m' "escapedstate" = some (.str " " te) → Fr h₀ L h' m' → News h₀ L h' (led w.params W x τ σ lex dlex io dio pb fs p u (.str ⟨#[d]⟩ ts) ln tl (tok ++ ⟨#[c]⟩) t' news) → Q .next { s with heap := h', toks := tk' }) :
    wpAny (model pw w) (arT dp un gd L outer) (execs [rt4] (envT L)) Q E s := by
  all_goals unfold rt4
  k_steps
  all_goals first
    | exact hQ _ _ _ _ rfl rfl rfl (by k_asm) (by first | k_asm | exact news_tail (by k_asm))
    | (fail "END")

theorem ch_sp_eof
    (B : Below A₀ base outer h₀) (F : Fr h₀ L s.heap (fm lex (.str "" t) qd te m₀)) (X : (K w.params).In h₀)
    (N : News h₀ L s.heap (led w.params W x τ σ lex dlex io dio pb fs p u (.str " " ts) ln tl tok tt news)) (T : Top q loose mean mg mb h₀)
    (hne2 : ∀ p ∈ news, p.1 ≠ dlex) (h12 : @LT.lt Nat _ dlex lex) (h13 : @LT.lt Nat _ lex dio) (h14 : @LT.lt Nat _ dio io) (htok : tok.length ≤ 1000)
    (hd : dp + 4 < recursionLimit) (hu : un + 30 < cLine)
    
    (hQ : ∀ m' (t' : Tok) h' tk', m' "self" = some (.ref lex) → m' "quoted" = some (.bool qd) → m' "escapedstate" = some (.str " " te) → Fr h₀ L h' m' → News h₀ L h' (led w.params W x τ σ lex dlex io dio pb fs p u .none ln tl tok tt news) → Q .brk { s with heap := h', toks := tk' }) :
    wpAny (model pw w) (arT dp un gd L outer) (execs [rt4] (envT L)) Q E s := by
  all_goals unfold rt4
  k_steps
  all_goals first
    | exact hQ _ 0 _ _ rfl rfl rfl (by k_asm) (by first | k_asm | exact news_tail (by k_asm))
    | (fail "END")

theorem ch_a_eof
    (B : Below A₀ base outer h₀) (F : Fr h₀ L s.heap (fm lex (.str "" t) qd te m₀)) (X : (K w.params).In h₀)
    (N : News h₀ L s.heap (led w.params W x τ σ lex dlex io dio pb fs p u (.str "a" ts) ln tl tok tt news)) (T : Top q loose mean mg mb h₀)
    (hne2 : ∀ p ∈ news, p.1 ≠ dlex) (h12 : @LT.lt Nat _ dlex lex) (h13 : @LT.lt Nat _ lex dio) (h14 : @LT.lt Nat _ dio io) (htok : tok.length ≤ 1000)
    (hd : dp + 4 < recursionLimit) (hu : un + 30 < cLine)
    
    (hQ : ∀ m' (t' : Tok) h' tk', m' "self" = some (.ref lex) → m' "quoted" = some (.bool qd) → m' "escapedstate" = some (.str " " te) → Fr h₀ L h' m' → News h₀ L h' (led w.params W x τ σ lex dlex io dio pb fs p u .none ln tl tok tt news) → Q .brk { s with heap := h', toks := tk' }) :
    wpAny (model pw w) (arT dp un gd L outer) (execs [rt4] (envT L)) Q E s := by
  all_goals unfold rt4
  k_steps
  all_goals first
    | exact hQ _ 0 _ _ rfl rfl rfl (by k_asm) (by first | k_asm | exact news_tail (by k_asm))
    | (fail "END")

theorem ch_none
    (B : Below A₀ base outer h₀) (F : Fr h₀ L s.heap (fm lex (.str "" t) qd te m₀)) (X : (K w.params).In h₀)
    (N : News h₀ L s.heap (led w.params W x τ σ lex dlex io dio pb fs p u .none ln tl tok tt news)) (T : Top q loose mean mg mb h₀)
    (hne2 : ∀ p ∈ news, p.1 ≠ dlex) (h12 : @LT.lt Nat _ dlex lex) (h13 : @LT.lt Nat _ lex dio) (h14 : @LT.lt Nat _ dio io) (htok : tok.length ≤ 1000)
    (hd : dp + 4 < recursionLimit) (hu : un + 30 < cLine)
    
    (hQ : ∀ m' (t' : Tok) h' tk', m' "self" = some (.ref lex) → m' "quoted" = some (.bool qd) → m' "escapedstate" = some (.str " " te) → Fr h₀ L h' m' → News h₀ L h' (led w.params W x τ σ lex dlex io dio pb fs p u .none ln tl "" t' news) → Q .brk { s with heap := h', toks := tk' }) :
    wpAny (model pw w) (arT dp un gd L outer) (execs [rt4] (envT L)) Q E s := by
  all_goals unfold rt4
  k_steps
  all_goals first
    | exact hQ _ _ _ _ rfl rfl rfl (by k_asm) (by first | k_asm | exact news_tail (by k_asm))
    | (fail "END")
end
end Mine
end
section
open Lean Meta Elab PySem PySem.W PyProof.Rows
set_option maxRecDepth 100000
set_option maxHeartbeats 0
set_option Elab.async false
set_option linter.unusedVariables false
namespace Mine
theorem fillE : (fun (_ : Params → Frag) (_ : OpenLaw) => True) K rw1 := by k_fill; trivial
theorem kw7 : True := by
  k_with_none
  k_with "c_enter" => (refine' code_def ?k1 ?k2 ?k3 ?k4 ?k5 ?kA ?kF ?kK ?k6 ?k7 ?zk8 ?zk9 ?kB ?_ ?c2 ?c3 ?c4 ?c5; (case kA => exact rfl); (case kF => exact rfl); (case kK => assumption); (case k1 => k_asm); (case k2 => k_asm); (case k3 => k_asm); (case k4 => k_asm); (case k5 => k_asm); (case k6 => k_is); (case k7 => k_is); (case zk8 => ktr_room); (case zk9 => first | exact BindsTo.of_eq rfl | exact binds_K (by k_in) rfl (by k_is) rfl rfl rfl | fail "c_enter: the arguments"); (case c5 => decide); (case kB => exact locs rfl); (case c2 => exact rfl); (case c3 => exact rfl); (case c4 => exact rfl); k_whole; intro zg' zL' zh' zFG' zF' zN' zB' zX' zT'; (try dsimp only); (try k_fold))
  k_with "compareOp In str str" => (k_here; (first | with_reducible refine in_ch (by with_reducible assumption) ?_ | with_reducible refine in_nil ?_ | with_reducible refine in_b (b := false) (by decide +kernel) ?_ | with_reducible refine in_b (b := true) (by decide +kernel) ?_))
  k_with "compareOp NotIn str str" => (k_here; (first | with_reducible refine notin_ch (by with_reducible assumption) ?_ | with_reducible refine notin_nil ?_))
  k_with "compareOp Eq str str" => (k_here; (first | with_reducible refine eq_b (by with_reducible assumption) ?_ | with_reducible refine eq_b (b := false) (by decide +kernel) ?_ | with_reducible refine eq_b (b := true) (by decide +kernel) ?_))
  k_with "truthy str" => (k_here; (first | with_reducible refine truthy_ch ?_ | with_reducible refine truthy_nil ?_ | with_reducible refine truthy_p (by with_reducible assumption) (by with_reducible assumption) ?_); intro zk9)
  trivial
section
variable {w : World} {mean : ExcName → Option Value} {mg mb : Str → Option Value} {dp un : Nat} {gd : Option (List Code)} {outer : List Env} {A₀ : Around} {base h₀ : Heap} {L : Addr} {news : List (Addr × Obj)} {s : Shared} {Q : Flow → Shared → Prop} {E : Value → Shared → Prop}
  {m₀ : Str → Option Value} {lex dlex io dio pb fs : Nat} {x W tok : Str} {τ σ : Nat → Tok} {u tl tt t ts te : Tok} {ln p : Int} {qd : Bool} {c d : Nat}
theorem ch_q_eof
    (B : Below A₀ base outer h₀) (F : Fr h₀ L s.heap (fm lex (.str "" t) qd te m₀)) (X : (K w.params).In h₀)
    (N : News h₀ L s.heap (led w.params W x τ σ lex dlex io dio pb fs p u (.str ⟨#[d]⟩ ts) ln tl tok tt news)) (T : Top q loose mean mg mb h₀)
    (hne2 : ∀ p ∈ news, p.1 ≠ dlex) (h12 : @LT.lt Nat _ dlex lex) (h13 : @LT.lt Nat _ lex dio) (h14 : @LT.lt Nat _ dio io) (htok : tok.length ≤ 1000)
    (hd : dp + 4 < recursionLimit) (hu : un + 30 < cLine)
    (d1 : ((⟨#[d]⟩ : Str) == Str.ofString " ") = false) (d2 : qs2.cps.toList.contains d = true)
    (hR : ∀ m' h₁ h' e tk', Fr h₀ L h₁ m' → News h₀ L h₁ (led w.params W x τ σ lex dlex io dio pb fs p u (.str ⟨#[d]⟩ ts) ln tl tok tt news) → Heap.NewExc h₁ h' e "ValueError" → E (.ref e) { s with heap := h', toks := tk' }) :
    wpAny (model pw w) (arT dp un gd L outer) (execs [rt4] (envT L)) Q E s := by
  unfold rt4
  k_steps
  all_goals exact hR _ _ _ _ _ (by k_asm) (by k_asm) (by assumption)
end
inductive St where
  | sp | wd | dead | q (d : Nat)
def stV : St → Tok → Value
  | .sp, t => .str " " t
  | .wd, t => .str "a" t
  | .dead, _ => .none
  | .q d, t => .str ⟨#[d]⟩ t
inductive Res where
  | fin (tok : List Nat) (qd : Bool) (st : St) (post : List Nat)
  | err
def isWs (c : Nat) : Bool := ws4.cps.toList.contains c
def isQt (c : Nat) : Bool := qs2.cps.toList.contains c
def lexRun : List Nat → St → List Nat → Bool → Res
  | [], .sp, tok, qd => .fin tok qd .dead []
  | [], .wd, tok, qd => .fin tok qd .dead []
  | [], .dead, _, qd => .fin [] qd .dead []
  | [], .q _, _, _ => .err
  | c :: r, .sp, tok, qd => if isWs c then lexRun r .sp tok qd else if isQt c then lexRun r (.q c) tok qd else lexRun r .wd [c] qd
  | c :: r, .wd, tok, qd => if isWs c then .fin tok qd .sp r else if isQt c then lexRun r (.q c) tok qd else lexRun r .wd (tok ++ [c]) qd
  | _ :: _, .dead, _, _ => .err
  | c :: r, .q d, tok, _ => if c == d then lexRun r .wd tok true else lexRun r (.q d) (tok ++ [c]) true
def inv : St → List Nat → Bool → List Nat → Prop
  | .sp, tok, qd, _ => tok = [] ∧ qd = false
  | .wd, tok, qd, _ => tok ≠ [] ∨ qd = true
  | .dead, _, _, post => post = []
  | .q d, _, _, _ => isQt d = true
theorem qt_cases {c : Nat} (h : isQt c = true) : c = 39 ∨ c = 34 := by
  have e : qs2.cps.toList = [39, 34] := by decide +kernel
  unfold isQt at h
  rw [e] at h
  simp at h
  omega
theorem qt_ws {c : Nat} (h : isQt c = true) : isWs c = false := by
  rcases qt_cases h with rfl | rfl <;> decide +kernel
theorem qt_bs {c : Nat} (h : isQt c = true) : (Str.ofString "\\").cps.toList.contains c = false := by
  rcases qt_cases h with rfl | rfl <;> decide +kernel
theorem qt_sp {c : Nat} (h : isQt c = true) : ((⟨#[c]⟩ : Str) == Str.ofString " ") = false := by
  rcases qt_cases h with rfl | rfl <;> decide +kernel
theorem snoc (l : List Nat) (c : Nat) : (⟨l.toArray⟩ : Str) ++ ⟨#[c]⟩ = ⟨(l ++ [c]).toArray⟩ := by
  show Str.mk _ = _
  simp
theorem one_beq (c d : Nat) : ((⟨#[c]⟩ : Str) == ⟨#[d]⟩) = (c == d) := by
  rw [Bool.eq_iff_iff]; simp
structure Sg where
  st : St
  tok : List Nat
  qd : Bool
  pre : List Nat
  post : List Nat
  u : Tok
  tl : Tok
  tt : Tok
  ts : Tok
  te : Tok
  ln : Int
abbrev Sg.led (g : Sg) (P : Params) (W x : Str) (τ σ : Nat → Tok) (lex dlex io dio pb fs : Nat) (news : List (Addr × Obj)) : List (Addr × Obj) :=
  Mine.led P W x τ σ lex dlex io dio pb fs (g.pre.length : Nat) g.u (stV g.st g.ts) g.ln g.tl ⟨g.tok.toArray⟩ g.tt news
structure Good (g : Sg) (x : Str) (r : Res) : Prop where
  text : x.cps.toList = g.pre ++ g.post
  short : g.tok.length ≤ g.pre.length
  same : lexRun g.post g.st g.tok g.qd = r
  inv : inv g.st g.tok g.qd g.post
end Mine
end
section
open Lean Meta Elab PySem PySem.W PyProof.Rows
set_option maxRecDepth 100000
set_option maxHeartbeats 0
set_option Elab.async false
set_option linter.unusedVariables false
namespace Mine
theorem fillF : (fun (_ : Params → Frag) (_ : OpenLaw) => True) K rw1 := by k_fill; trivial
theorem kw8 : True := by
  k_with_none
  k_with "c_enter" => (refine' code_def ?k1 ?k2 ?k3 ?k4 ?k5 ?kA ?kF ?kK ?k6 ?k7 ?zk8 ?zk9 ?kB ?_ ?c2 ?c3 ?c4 ?c5; (case kA => exact rfl); (case kF => exact rfl); (case kK => assumption); (case k1 => k_asm); (case k2 => k_asm); (case k3 => k_asm); (case k4 => k_asm); (case k5 => k_asm); (case k6 => k_is); (case k7 => k_is); (case zk8 => ktr_room); (case zk9 => first | exact BindsTo.of_eq rfl | exact binds_K (by k_in) rfl (by k_is) rfl rfl rfl | fail "c_enter: the arguments"); (case c5 => decide); (case kB => exact locs rfl); (case c2 => exact rfl); (case c3 => exact rfl); (case c4 => exact rfl); k_whole; intro zg' zL' zh' zFG' zF' zN' zB' zX' zT'; (try dsimp only); (try k_fold))
  k_with "compareOp In str str" => (k_here; (first | with_reducible refine in_ch (by with_reducible assumption) ?_ | with_reducible refine in_nil ?_ | with_reducible refine in_b (b := false) (by decide +kernel) ?_ | with_reducible refine in_b (b := true) (by decide +kernel) ?_))
  k_with "compareOp NotIn str str" => (k_here; (first | with_reducible refine notin_ch (by with_reducible assumption) ?_ | with_reducible refine notin_nil ?_))
  k_with "compareOp Eq str str" => (k_here; (first | with_reducible refine eq_b (by with_reducible assumption) ?_ | with_reducible refine eq_b (b := false) (by decide +kernel) ?_ | with_reducible refine eq_b (b := true) (by decide +kernel) ?_))
  k_with "truthy str" => (k_here; (first | with_reducible refine truthy_ch ?_ | with_reducible refine truthy_nil ?_ | with_reducible refine truthy_p (by with_reducible assumption) (by with_reducible assumption) ?_); intro zk9)
  trivial
noncomputable def testT : PySem.Expr := litOf (match stm fshlex_read_token_b 2 with | .While t _ _ _ => t | _ => .Name "x" default) (by conv => rhs; whnf)
noncomputable def posT : Pos := litOf (match stm fshlex_read_token_b 2 with | .While _ _ _ p => p | _ => default) (by conv => rhs; whnf)

theorem nilE : (⟨([] : List Nat).toArray⟩ : Str) = Str.ofString "" := by decide +kernel
theorem fr_norm {h₀ h : Heap} {L : Addr} {m : Str → Option Value} {lex : Nat} {qd : Bool} {te : Tok} (F : Fr h₀ L h m) (a : m "self" = some (.ref lex)) (b : m "quoted" = some (.bool qd)) (c : m "escapedstate" = some (.str " " te)) :
    Fr h₀ L h (fun (y : Str) => if y = ("self" : Str) then some (Value.ref lex) else (fun (y : Str) => if y = ("quoted" : Str) then some (Value.bool qd) else if y = ("escapedstate" : Str) then some (Value.str (" " : Str) te) else m y) y) := by
  have e : (fun (y : Str) => if y = ("self" : Str) then some (Value.ref lex) else (fun (y : Str) => if y = ("quoted" : Str) then some (Value.bool qd) else if y = ("escapedstate" : Str) then some (Value.str (" " : Str) te) else m y) y) = m := by
    funext y
    dsimp only
    split
    · rename_i h; rw [h, a]
    · split
      · rename_i h; rw [h, b]
      · split
        · rename_i h; rw [h, c]
        · rfl
  rw [e]; exact F
section
variable {w : World} {mean : ExcName → Option Value} {mg mb : Str → Option Value} {dp un : Nat} {gd : Option (List Code)} {outer : List Env} {A₀ : Around} {base h₀ : Heap} {L : Addr} {news : List (Addr × Obj)} {s : Shared} {Q : Flow → Shared → Prop} {E : Value → Shared → Prop}
  {m₀ : Str → Option Value} {lex dlex io dio pb fs : Nat} {x W : Str} {τ σ : Nat → Tok}
theorem turn_c {g : Sg} {m : Str → Option Value} {r : Res}
    (B : Below A₀ base outer h₀) (F : Fr h₀ L s.heap m) (X : (K w.params).In h₀) (N : News h₀ L s.heap (g.led w.params W x τ σ lex dlex io dio pb fs news)) (T : Top q loose mean mg mb h₀)
    (m1 : m "self" = some (.ref lex)) (m2 : m "quoted" = some (.bool g.qd)) (m3 : m "escapedstate" = some (.str " " g.te)) (G : Good g x r)
    (hbs : ∀ c ∈ x.cps.toList, (Str.ofString "\\").cps.toList.contains c = false) (hW : ∀ c, isQt c = true → W.cps.toList.contains c = false) (hsz : x.length ≤ 1000)
    (hn1 : ∀ p ∈ news, p.1 ≠ dio) (hne2 : ∀ p ∈ news, p.1 ≠ dlex) (h12 : @LT.lt Nat _ dlex lex) (h13 : @LT.lt Nat _ lex dio) (h14 : @LT.lt Nat _ dio io)
    (hd : dp + 4 < recursionLimit) (hu : un + 30 < cLine)
    (hnext : ∀ (g' : Sg) m' h' tk' f, f = .next ∨ f = .cont → m' "self" = some (.ref lex) → m' "quoted" = some (.bool g'.qd) → m' "escapedstate" = some (.str " " g'.te) → Fr h₀ L h' m' → News h₀ L h' (g'.led w.params W x τ σ lex dlex io dio pb fs news) → g'.post.length < g.post.length → Good g' x r → Q f { s with heap := h', toks := tk' })
    (hfin : ∀ (g' : Sg) m' h' tk', m' "self" = some (.ref lex) → m' "quoted" = some (.bool g'.qd) → Fr h₀ L h' m' → News h₀ L h' (g'.led w.params W x τ σ lex dlex io dio pb fs news) → x.cps.toList = g'.pre ++ g'.post → g'.tok.length ≤ x.length → r = .fin g'.tok g'.qd g'.st g'.post → Q .brk { s with heap := h', toks := tk' })
    (herr : r = .err → ∀ (g' : Sg) m' h₁ h' e tk', Fr h₀ L h₁ m' → News h₀ L h₁ (g'.led w.params W x τ σ lex dlex io dio pb fs news) → Heap.NewExc h₁ h' e "ValueError" → E (.ref e) { s with heap := h', toks := tk' }) :
    wpAny (model pw w) (arT dp un gd L outer) (execs [rt1, rt2, rt3, rt4] (envT L)) Q E s := by
  have hlen : x.length = x.cps.toList.length := by show x.cps.size = _; rw [Array.length_toList]
  obtain ⟨Gt, Gs, Gr, Gi⟩ := G
  have F₂ := fr_norm F m1 m2 m3
  have hpl : x.length = g.pre.length + g.post.length := by rw [hlen, Gt, List.length_append]
  have hle : ∀ l : List Nat, (⟨l.toArray⟩ : Str).length = l.length := fun l => by simp [Str.length]
  have htok : (⟨g.tok.toArray⟩ : Str).length ≤ 1000 := by rw [hle]; omega
  refine pre_c B F₂ X N T Gt hsz ?_ (by omega) hne2 h12 h13 h14 hd hu ?_ ?_
  · intro p hp
    rcases List.mem_cons.mp hp with rfl | hp
    · show (lex : Nat) ≠ dio; omega
    · rcases List.mem_cons.mp hp with rfl | hp
      · show (dlex : Nat) ≠ dio; omega
      · exact hn1 p hp
  · intro hp t h' tk' F₃ N₃
    rw [hp] at Gr
    obtain ⟨st, tok, qd, pre, post, u, tl, tt, ts, te, ln⟩ := g
    cases st with
    | sp =>
      refine ch_sp_eof B F₃ X N₃ T hne2 h12 h13 h14 htok hd hu ?_
      intro m' t' h'' tk'' b1 b2 b3 F₄ N₄
      exact hfin ⟨.dead, tok, qd, pre, [], u, tl, tt, ts, te, ln⟩ m' h'' tk'' b1 b2 F₄ N₄ (by rw [Gt, hp]) (by simp only at Gs hpl ⊢; omega) Gr.symm
    | wd =>
      refine ch_a_eof B F₃ X N₃ T hne2 h12 h13 h14 htok hd hu ?_
      intro m' t' h'' tk'' b1 b2 b3 F₄ N₄
      exact hfin ⟨.dead, tok, qd, pre, [], u, tl, tt, ts, te, ln⟩ m' h'' tk'' b1 b2 F₄ N₄ (by rw [Gt, hp]) (by simp only at Gs hpl ⊢; omega) Gr.symm
    | dead =>
      refine ch_none B F₃ X N₃ T hne2 h12 h13 h14 htok hd hu ?_
      intro m' t' h'' tk'' b1 b2 b3 F₄ N₄
      exact hfin ⟨.dead, [], qd, pre, [], u, tl, t', ts, te, ln⟩ m' h'' tk'' b1 b2 F₄ N₄ (by rw [Gt, hp]) (by simp) Gr.symm
    | q d =>
      have Gi : isQt d = true := Gi
      refine ch_q_eof B F₃ X N₃ T hne2 h12 h13 h14 htok hd hu (qt_sp Gi) Gi ?_
      intro m' h₁ h'' e tk'' F₄ N₄ e₄
      exact herr Gr.symm ⟨.q d, tok, qd, pre, post, u, tl, tt, ts, te, ln⟩ m' h₁ h'' e tk'' F₄ N₄ e₄
  · intro c post' hp t u' ln' tl' h' tk' F₃ N₃
    rw [hp] at Gr
    obtain ⟨st, tok, qd, pre, post, u, tl, tt, ts, te, ln⟩ := g
    have hp : post = c :: post' := hp
    subst hp
    have Gt : x.cps.toList = pre ++ c :: post' := Gt
    have Gs : tok.length ≤ pre.length := Gs
    have hcx : (Str.ofString "\\").cps.toList.contains c = false := hbs c (by rw [Gt]; simp)
    have Gt' : x.cps.toList = (pre ++ [c]) ++ post' := by rw [Gt]; simp
    have hlp : ((pre.length : Int) + 1) = ((pre ++ [c]).length : Nat) := by simp
    have hlt : post'.length < (c :: post').length := by simp
    have hw : ∀ b : Bool, isWs c = b → ws4.cps.toList.contains c = b := fun b h => h
    have hq : ∀ b : Bool, isQt c = b → qs2.cps.toList.contains c = b := fun b h => h
    rw [hlp] at N₃
    cases st with
    | sp =>
      obtain ⟨rfl, rfl⟩ : tok = [] ∧ qd = false := Gi
      cases hw1 : isWs c with
      | true =>
        refine ch_sp_ws B F₃ X N₃ T hne2 h12 h13 h14 htok hd hu hw1 nilE rfl ?_
        intro m' t' h'' tk'' b1 b2 b3 F₄ N₄
        exact hnext ⟨.sp, [], false, pre ++ [c], post', u', tl', tt, ts, te, ln'⟩ m' h'' tk'' _ (.inr rfl) b1 b2 b3 F₄ N₄ hlt ⟨Gt', by simp, by rw [← Gr]; simp [lexRun, hw1], rfl, rfl⟩
      | false =>
        cases hq1 : isQt c with
        | true =>
          refine ch_sp_quote B F₃ X N₃ T hne2 h12 h13 h14 htok hd hu hw1 hq1 hcx (hW c hq1) ?_
          intro m' t' h'' tk'' b1 b2 b3 F₄ N₄
          exact hnext ⟨.q c, [], false, pre ++ [c], post', u', tl', tt, t, te, ln'⟩ m' h'' tk'' _ (.inl rfl) b1 b2 b3 F₄ N₄ hlt ⟨Gt', by simp, by rw [← Gr]; simp [lexRun, hw1, hq1], hq1⟩
        | false =>
          refine ch_sp_other B F₃ X N₃ T hne2 h12 h13 h14 htok hd hu hw1 hq1 hcx rfl ?_
          intro m' t' h'' tk'' b1 b2 b3 F₄ N₄
          exact hnext ⟨.wd, [c], false, pre ++ [c], post', u', tl', t, t', te, ln'⟩ m' h'' tk'' _ (.inl rfl) b1 b2 b3 F₄ N₄ hlt ⟨Gt', by simp, by rw [← Gr]; simp [lexRun, hw1, hq1], .inl (by simp)⟩
    | wd =>
      have Gi : tok ≠ [] ∨ qd = true := Gi
      cases hw1 : isWs c with
      | true =>
        refine ch_a_ws B F₃ X N₃ T hne2 h12 h13 h14 htok hd hu hw1 ?_ ?_
        · rw [hle]
          exact Gi.imp (fun h e => h (List.length_eq_zero_iff.mp e)) id
        intro m' t' h'' tk'' b1 b2 b3 F₄ N₄
        exact hfin ⟨.sp, tok, qd, pre ++ [c], post', u', tl', tt, t', te, ln'⟩ m' h'' tk'' b1 b2 F₄ N₄ Gt' (by simp only at hpl ⊢; omega) (by rw [← Gr]; simp [lexRun, hw1])
      | false =>
        cases hq1 : isQt c with
        | true =>
          refine ch_a_quote B F₃ X N₃ T hne2 h12 h13 h14 htok hd hu hw1 hq1 hcx (hW c hq1) ?_
          intro m' t' h'' tk'' b1 b2 b3 F₄ N₄
          exact hnext ⟨.q c, tok, qd, pre ++ [c], post', u', tl', tt, t, te, ln'⟩ m' h'' tk'' _ (.inl rfl) b1 b2 b3 F₄ N₄ hlt ⟨Gt', by simp; omega, by rw [← Gr]; simp [lexRun, hw1, hq1], hq1⟩
        | false =>
          refine ch_a_other B F₃ X N₃ T hne2 h12 h13 h14 htok hd hu hw1 hq1 hcx rfl ?_
          intro m' t' h'' tk'' b1 b2 b3 F₄ N₄
          rw [snoc] at N₄
          exact hnext ⟨.wd, tok ++ [c], qd, pre ++ [c], post', u', tl', t', ts, te, ln'⟩ m' h'' tk'' _ (.inl rfl) b1 b2 b3 F₄ N₄ hlt ⟨Gt', by simp; omega, by rw [← Gr]; simp [lexRun, hw1, hq1], .inl (by simp)⟩
    | dead =>
      have Gi : c :: post' = [] := Gi
      cases Gi
    | q d =>
      have Gi : isQt d = true := Gi
      cases hc : (c == d) with
      | true =>
        refine ch_q_same B F₃ X N₃ T hne2 h12 h13 h14 htok hd hu (qt_sp Gi) Gi ((one_beq c d).trans hc) ?_
        intro m' t' h'' tk'' b1 b2 b3 F₄ N₄
        exact hnext ⟨.wd, tok, true, pre ++ [c], post', u', tl', tt, t', te, ln'⟩ m' h'' tk'' _ (.inl rfl) b1 b2 b3 F₄ N₄ hlt ⟨Gt', by simp; omega, by rw [← Gr]; simp [lexRun, hc], .inr rfl⟩
      | false =>
        refine ch_q_other B F₃ X N₃ T hne2 h12 h13 h14 htok hd hu (qt_sp Gi) Gi ((one_beq c d).trans hc) hcx ?_
        intro m' t' h'' tk'' b1 b2 b3 F₄ N₄
        rw [snoc] at N₄
        exact hnext ⟨.q d, tok ++ [c], true, pre ++ [c], post', u', tl', t', ts, te, ln'⟩ m' h'' tk'' _ (.inl rfl) b1 b2 b3 F₄ N₄ hlt ⟨Gt', by simp; omega, by rw [← Gr]; simp [lexRun, hc], Gi⟩
theorem loop_c {g : Sg} {m : Str → Option Value} {r : Res}
    (B : Below A₀ base outer h₀) (F : Fr h₀ L s.heap m) (X : (K w.params).In h₀) (N : News h₀ L s.heap (g.led w.params W x τ σ lex dlex io dio pb fs news)) (T : Top q loose mean mg mb h₀)
    (m1 : m "self" = some (.ref lex)) (m2 : m "quoted" = some (.bool g.qd)) (m3 : m "escapedstate" = some (.str " " g.te)) (G : Good g x r)
    (hbs : ∀ c ∈ x.cps.toList, (Str.ofString "\\").cps.toList.contains c = false) (hW : ∀ c, isQt c = true → W.cps.toList.contains c = false) (hsz : x.length ≤ 1000)
    (hn1 : ∀ p ∈ news, p.1 ≠ dio) (hne2 : ∀ p ∈ news, p.1 ≠ dlex) (h12 : @LT.lt Nat _ dlex lex) (h13 : @LT.lt Nat _ lex dio) (h14 : @LT.lt Nat _ dio io)
    (hd : dp + 4 < recursionLimit) (hu : un + 30 < cLine)
    (hfin : ∀ (g' : Sg) m' h' tk', m' "self" = some (.ref lex) → m' "quoted" = some (.bool g'.qd) → Fr h₀ L h' m' → News h₀ L h' (g'.led w.params W x τ σ lex dlex io dio pb fs news) → x.cps.toList = g'.pre ++ g'.post → g'.tok.length ≤ x.length → r = .fin g'.tok g'.qd g'.st g'.post → Q .next { s with heap := h', toks := tk' })
    (herr : r = .err → ∀ (g' : Sg) m' h₁ h' e tk', Fr h₀ L h₁ m' → News h₀ L h₁ (g'.led w.params W x τ σ lex dlex io dio pb fs news) → Heap.NewExc h₁ h' e "ValueError" → E (.ref e) { s with heap := h', toks := tk' })
    (hE : PassesOwn (model pw w) (arT dp un gd L outer) (envT L) E) :
    wpAny (model pw w) (arT dp un gd L outer) (exec (.While testT [rt1, rt2, rt3, rt4] [] posT) (envT L)) Q E s := by
  have hlen : x.length = x.cps.toList.length := by show x.cps.size = _; rw [Array.length_toList]
  refine While_inv2 (fun n m nx => ∃ g : Sg, nx = g.led w.params W x τ σ lex dlex io dio pb fs news ∧ n = g.post.length ∧ m "self" = some (.ref lex) ∧ m "quoted" = some (.bool g.qd) ∧ m "escapedstate" = some (.str " " g.te) ∧ Good g x r) F N ⟨g, rfl, rfl, m1, m2, m3, G⟩ ?_ hE
  rintro n m₁ nx h₁ tk₁ F₁ N₁ ⟨g, rfl, rfl, a1, a2, a3, G⟩
  unfold testT litOf
  generalize hb : [rt1, rt2, rt3, rt4] = body
  k_steps
  subst hb
  refine turn_c B F₁ X N₁ T a1 a2 a3 G hbs hW hsz hn1 hne2 h12 h13 h14 hd hu ?_ ?_ ?_
  · intro g' m' h' tk' f hf b1 b2 b3 F₄ N₄ hl G₄
    rcases hf with rfl | rfl
    · exact ⟨h', tk', m', _, _, rfl, F₄, N₄, hl, g', rfl, rfl, b1, b2, b3, G₄⟩
    · exact ⟨h', tk', m', _, _, rfl, F₄, N₄, hl, g', rfl, rfl, b1, b2, b3, G₄⟩
  · intro g' m' h' tk' b1 b2 F₄ N₄ e1 e2 e3
    exact hfin g' m' h' tk' b1 b2 F₄ N₄ e1 e2 e3
  · intro e g' m' h₁ h' ex tk' F₄ N₄ e1
    exact herr e g' m' h₁ h' ex tk' F₄ N₄ e1
end
end Mine
end
section
open Lean Meta Elab PySem PySem.W PyProof.Rows
set_option maxRecDepth 100000
set_option maxHeartbeats 0
set_option Elab.async false
set_option linter.unusedVariables false
namespace Mine
theorem fillG : (fun (_ : Params → Frag) (_ : OpenLaw) => True) K rw1 := by k_fill; trivial
theorem kw9 : True := by
  k_with_none
  k_with "c_enter" => (refine' code_def ?k1 ?k2 ?k3 ?k4 ?k5 ?kA ?kF ?kK ?k6 ?k7 ?zk8 ?zk9 ?kB ?_ ?c2 ?c3 ?c4 ?c5; (case kA => exact rfl); (case kF => exact rfl); (case kK => assumption); (case k1 => k_asm); (case k2 => k_asm); (case k3 => k_asm); (case k4 => k_asm); (case k5 => k_asm); (case k6 => k_is); (case k7 => k_is); (case zk8 => ktr_room); (case zk9 => first | exact BindsTo.of_eq rfl | exact binds_K (by k_in) rfl (by k_is) rfl rfl rfl | fail "c_enter: the arguments"); (case c5 => decide); (case kB => exact locs rfl); (case c2 => exact rfl); (case c3 => exact rfl); (case c4 => exact rfl); k_whole; intro zg' zL' zh' zFG' zF' zN' zB' zX' zT'; (try dsimp only); (try k_fold))
  k_with "compareOp In str str" => (k_here; (first | with_reducible refine in_ch (by with_reducible assumption) ?_ | with_reducible refine in_nil ?_ | with_reducible refine in_b (b := false) (by decide +kernel) ?_ | with_reducible refine in_b (b := true) (by decide +kernel) ?_))
  k_with "compareOp NotIn str str" => (k_here; (first | with_reducible refine notin_ch (by with_reducible assumption) ?_ | with_reducible refine notin_nil ?_))
  k_with "compareOp Eq str str" => (k_here; (first | with_reducible refine eq_b (by with_reducible assumption) ?_ | with_reducible refine eq_b (b := false) (by decide +kernel) ?_ | with_reducible refine eq_b (b := true) (by decide +kernel) ?_))
  k_with "truthy str" => (k_here; (first | with_reducible refine truthy_ch ?_ | with_reducible refine truthy_nil ?_ | with_reducible refine truthy_p (by with_reducible assumption) (by with_reducible assumption) ?_); intro zk9)
  trivial

noncomputable def rtP0 : Stmt := litOf (stm fshlex_read_token_b 0) (by conv => rhs; whnf)
noncomputable def rtP1 : Stmt := litOf (stm fshlex_read_token_b 1) (by conv => rhs; whnf)
noncomputable def rtW : Stmt := .While testT [rt1, rt2, rt3, rt4] [] posT
noncomputable def rtP3 : Stmt := litOf (stm fshlex_read_token_b 3) (by conv => rhs; whnf)
noncomputable def rtP4 : Stmt := litOf (stm fshlex_read_token_b 4) (by conv => rhs; whnf)
noncomputable def rtP5 : Stmt := litOf (stm fshlex_read_token_b 5) (by conv => rhs; whnf)
noncomputable def rtP6 : Stmt := litOf (stm fshlex_read_token_b 6) (by conv => rhs; whnf)
noncomputable def rtP7 : Stmt := litOf (stm fshlex_read_token_b 7) (by conv => rhs; whnf)
theorem rt_body : fshlex_read_token_b = [rtP0, rtP1, rtW, rtP3, rtP4, rtP5, rtP6, rtP7] := by with_unfolding_all rfl
theorem kw10 : True := by
  k_with "leaving ref" => (k_here; first
  | (refine' leave_newS ?k1 ?k0 ?k2 ?k3 ?_; (case k0 => assumption); (case k1 => assumption); (case k2 => assumption); (case k3 => k_asm); k_whole; intro zh' zR' zR2' zU'; (try dsimp only at zR' zR2' zU' ⊢))
  | (refine' leave_onSN ?k1 ?k2 ?k3 ?k4 ?_; (case k3 => assumption); (case k1 => assumption); (case k4 => assumption); (case k2 => assumption); k_whole; intro zh' zR' zR2' zU'; (try dsimp only at zR' zR2' zU' ⊢))
  | (refine' leave_raiseS ?k1 ?k0 ?k2 ?k3 ?_; (case k0 => assumption); (case k1 => assumption); (case k2 => assumption); (case k3 => k_asm); k_whole; intro zh' zt' zR' zR2' zU'; (try dsimp only at zR' zR2' zU' ⊢)))
  k_with "execs" => (k_here; rw [rt_body]; unfold rtP0 rtP1 rtP3 rtP4 rtP5 rtP6 rtP7)
  trivial
theorem raisedSN_drop {base G h : Heap} {l : List Env} {e : Addr} {cls : Value} {a b c d : Addr × Obj} {news : List (Addr × Obj)} (R : RaisedSN base G l e cls (a :: b :: c :: d :: news) h) : RaisedSN base G l e cls news h := by
  obtain ⟨B, a0, h1, h0, h2, h3⟩ := R
  exact ⟨B, a0, h1, h0, fun q hq => h2 q (by simp [hq]), h3⟩
theorem ne_nil {tok : List Nat} (h : tok ≠ []) : ((⟨tok.toArray⟩ : Str) == Str.ofString "") = false := by
  rw [← nilE, Bool.eq_false_iff]
  intro e
  simp at e
  exact h e
theorem fr_norm2 {h₀ h : Heap} {L : Addr} {m : Str → Option Value} {lex : Nat} {qd : Bool} (F : Fr h₀ L h m) (a : m "self" = some (.ref lex)) (b : m "quoted" = some (.bool qd)) :
    Fr h₀ L h (fun (y : Str) => if y = ("self" : Str) then some (Value.ref lex) else if y = ("quoted" : Str) then some (Value.bool qd) else m y) := by
  have e : (fun (y : Str) => if y = ("self" : Str) then some (Value.ref lex) else if y = ("quoted" : Str) then some (Value.bool qd) else m y) = m := by
    funext y
    split
    · rename_i h; rw [h, a]
    · split
      · rename_i h; rw [h, b]
      · rfl
  rw [e]; exact F
section
variable {w : World} {mean : ExcName → Option Value} {mg mb : Str → Option Value} {dp un : Nat} {gd : Option (List Code)} {outer : List Env} {A₀ : Around} {base h₀ : Heap} {L : Addr} {news : List (Addr × Obj)} {s : Shared} {Q : Flow → Shared → Prop} {E : Value → Shared → Prop}
  {m₀ : Str → Option Value} {lex dlex io dio pb fs : Nat} {x W : Str} {τ σ : Nat → Tok}
theorem loop_w {g : Sg} {m : Str → Option Value} {r : Res} {te : Tok}
    (B : Below A₀ base outer h₀) (F : Fr h₀ L s.heap m) (X : (K w.params).In h₀) (N : News h₀ L s.heap (g.led w.params W x τ σ lex dlex io dio pb fs news)) (T : Top q loose mean mg mb h₀)
    (m1 : m "self" = some (.ref lex)) (m2 : m "quoted" = some (.bool false)) (m3 : m "escapedstate" = some (.str " " te)) (G : Good g x r) (hg : g.qd = false)
    (hbs : ∀ c ∈ x.cps.toList, (Str.ofString "\\").cps.toList.contains c = false) (hW : ∀ c, isQt c = true → W.cps.toList.contains c = false) (hsz : x.length ≤ 1000)
    (hn1 : ∀ p ∈ news, p.1 ≠ dio) (hne2 : ∀ p ∈ news, p.1 ≠ dlex) (h12 : @LT.lt Nat _ dlex lex) (h13 : @LT.lt Nat _ lex dio) (h14 : @LT.lt Nat _ dio io)
    (hd : dp + 4 < recursionLimit) (hu : un + 30 < cLine)
    (hfin1 : ∀ (tok : List Nat) st pre post u  tl tt ts ln (m' : Str → Option Value) h' tk', r = .fin tok true st post → Fr h₀ L h' (fun (y : Str) => if y = ("self" : Str) then some (Value.ref lex) else if y = ("quoted" : Str) then some (Value.bool true) else m' y) → News h₀ L h' (Mine.led w.params W x τ σ lex dlex io dio pb fs (pre.length : Nat) u (stV st ts) ln tl ⟨tok.toArray⟩ tt news) → x.cps.toList = pre ++ post → Q .next { s with heap := h', toks := tk' })
    (hfin2 : ∀ st pre post u  tl tt ts ln (m' : Str → Option Value) h' tk', r = .fin [] false st post → Fr h₀ L h' (fun (y : Str) => if y = ("self" : Str) then some (Value.ref lex) else if y = ("quoted" : Str) then some (Value.bool false) else m' y) → News h₀ L h' (Mine.led w.params W x τ σ lex dlex io dio pb fs (pre.length : Nat) u (stV st ts) ln tl "" tt news) → x.cps.toList = pre ++ post → Q .next { s with heap := h', toks := tk' })
    (hfin3 : ∀ (tok : List Nat) st pre post u  tl tt ts ln (m' : Str → Option Value) h' tk', r = .fin tok false st post → tok ≠ [] → ((⟨tok.toArray⟩ : Str) == Str.ofString "") = false → Fr h₀ L h' (fun (y : Str) => if y = ("self" : Str) then some (Value.ref lex) else if y = ("quoted" : Str) then some (Value.bool false) else m' y) → News h₀ L h' (Mine.led w.params W x τ σ lex dlex io dio pb fs (pre.length : Nat) u (stV st ts) ln tl ⟨tok.toArray⟩ tt news) → x.cps.toList = pre ++ post → Q .next { s with heap := h', toks := tk' })
    (herr : r = .err → ∀ (g' : Sg) m' h₁ h' e tk', Fr h₀ L h₁ m' → News h₀ L h₁ (g'.led w.params W x τ σ lex dlex io dio pb fs news) → Heap.NewExc h₁ h' e "ValueError" → E (.ref e) { s with heap := h', toks := tk' })
    (hE : PassesOwn (model pw w) (arT dp un gd L outer) (envT L) E) :
    wpAny (model pw w) (arT dp un gd L outer) (exec rtW (envT L)) Q E s := by
  obtain ⟨st, tok, qd, pre, post, u, tl, tt, ts, te', ln⟩ := g
  obtain rfl : qd = false := hg
  refine loop_c (g := ⟨st, tok, false, pre, post, u, tl, tt, ts, te, ln⟩) B F X N T m1 m2 m3 ⟨G.text, G.short, G.same, G.inv⟩ hbs hW hsz hn1 hne2 h12 h13 h14 hd hu ?_ herr hE
  rintro ⟨st, tok, qd, pre, post, u, tl, tt, ts, te, ln⟩ m' h' tk' b1 b2 F₄ N₄ e1 e2 e3
  have F₅ := fr_norm2 F₄ b1 b2
  cases qd with
  | true => exact hfin1 tok st pre post u tl tt ts ln m' h' tk' e3 F₅ N₄ e1
  | false =>
    by_cases ht : tok = []
    · subst ht
      exact hfin2 st pre post u tl tt ts ln m' h' tk' e3 F₅ N₄ e1
    · exact hfin3 tok st pre post u tl tt ts ln m' h' tk' e3 ht (ne_nil ht) F₅ N₄ e1
end
theorem kw11 : True := by
  k_with "exec" => (k_here; k_dflt (refine' loop_w ?rB ?rF ?rX ?rN ?rT ?r1 ?r2 ?r3 ?rG ?rg ?rb ?rW ?rz ?rn1 ?rn2 ?r12 ?r13 ?r14 ?rd ?ru ?_ ?_ ?_ ?_ ?rE; (case rB => k_asm); (case rF => k_asm); (case rX => k_asm); (case rN => k_asm); (case rT => k_asm); (case r1 => exact rfl); (case r2 => exact rfl); (case r3 => exact rfl); (case rG => assumption); (case rg => assumption); (case rb => assumption); (case rW => assumption); (case rz => assumption); (case rn1 => assumption); (case rn2 => assumption); (case r12 => assumption); (case r13 => assumption); (case r14 => assumption); (case rd => ktr_room); (case ru => ktr_units); (case rE => passes_own); k_whole))
  trivial
section
variable {w : World} {mean : ExcName → Option Value} {mg mb : Str → Option Value} {dp un : Nat} {gd : Option (List Code)} {cn : Str} {cs : Scope} {a : Addr} {ccd : Value} {cl : List (Str × Addr)} {outer : List Env} {A₀ : Around} {base h₀ : Heap} {L : Addr} {m : Str → Option Value} {news : List (Addr × Obj)} {s : Shared} {Q E : Value → Shared → Prop}
  {lex dlex io dio pb fs : Nat} {x W : Str} {τ σ : Nat → Tok}
theorem token_c {g : Sg} {r : Res}
    (B : Below A₀ base outer h₀) (F : Fr h₀ L s.heap m) (X : (K w.params).In h₀) (N : News h₀ L s.heap (g.led w.params W x τ σ lex dlex io dio pb fs news)) (T : Top q loose mean mg mb h₀) (hk : cs.kind = .function)
    (G : Good g x r) (hg : g.qd = false)
    (hbs : ∀ c ∈ x.cps.toList, (Str.ofString "\\").cps.toList.contains c = false) (hW : ∀ c, isQt c = true → W.cps.toList.contains c = false) (hsz : x.length ≤ 1000)
    (hn1 : ∀ p ∈ news, p.1 ≠ dio) (hne2 : ∀ p ∈ news, p.1 ≠ dlex) (h12 : @LT.lt Nat _ dlex lex) (h13 : @LT.lt Nat _ lex dio) (h14 : @LT.lt Nat _ dio io)
    (hd : dp + 5 < recursionLimit) (hu : un + 40 < cLine)
    (hret : ∀ (tok : List Nat) qd v st pre post u tl tt ts ln h' tk', r = .fin tok qd st post → (v = .none ∧ tok = [] ∧ qd = false ∨ (∃ t, v = .str ⟨tok.toArray⟩ t) ∧ (tok ≠ [] ∨ qd = true)) → Fr h₀ L h' m → News h₀ L h' (Mine.led w.params W x τ σ lex dlex io dio pb fs (pre.length : Nat) u (stV st ts) ln tl "" tt news) → x.cps.toList = pre ++ post → Q v { s with heap := h', toks := tk' })
    (herr : r = .err → ∀ gg h' e tk', Fr h₀ L gg m → gg.UpToSlots h' → RaisedSN base gg (envX cn cs L a ccd cl :: outer) e (.type "ValueError") news h' → E (.ref e) { s with heap := h', toks := tk' }) :
    wpAny (model pw w) (ktrTop dp un gd cn cs L a ccd cl outer) (call (.ref 706) [.ref lex]) Q E s := by
  refine wpAny_call ?_
  k_dflt (walk_at "c_enter")
  k_steps
  all_goals first
    | exact hret _ _ _ _ _ _ _ _ _ _ _ _ _ (by assumption) (.inr ⟨⟨_, rfl⟩, .inr rfl⟩) (by k_asm) (by k_asm) (by assumption)
    | exact hret _ _ _ _ _ _ _ _ _ _ _ _ _ (by assumption) (.inr ⟨⟨_, rfl⟩, .inl (by assumption)⟩) (by k_asm) (by k_asm) (by assumption)
    | exact hret _ _ _ _ _ _ _ _ _ _ _ _ _ (by assumption) (.inl ⟨rfl, rfl, rfl⟩) (by k_asm) (by k_asm) (by assumption)
    | exact herr (by assumption) _ _ _ _ (by k_asm) (by assumption) (raisedSN_drop (by assumption))
    | (fail "END")
end
end Mine
end
section
open Lean Meta Elab PySem PySem.W PyProof.Rows
set_option maxRecDepth 100000
set_option maxHeartbeats 0
set_option Elab.async false
set_option linter.unusedVariables false
namespace Mine
abbrev dqE : Obj := ⟨.type "collections.deque", none, .fields #[.none, .int 0 0], #[]⟩
theorem noBool_dq : typeLookup (.type "collections.deque") "__bool__" = pure none := by rw [typeLookup_type, builtinLookup_eq_fast]; kernel_rfl
theorem slot_dq_len : Slot "collections.deque" "__len__" "collections.deque.__len__" :=
  .of (owner := "collections.deque") (n := "__len__") (by rw [typeLookup_type, builtinLookup_eq_fast]; kernel_rfl) (by decide +kernel) (by decide +kernel) (by decide +kernel)
    (by first | exact .inl (by decide +kernel) | exact .inr (by decide +kernel)) (by rw [isSubtype_type]; kernel_rfl)
theorem entry_dq_len : entryFor table "collections.deque.__len__" = some Builtin.«collections.deque.__len__» := entryFor_of_fast (by kernel_rfl)
theorem args_dq_len (a : Value) : argsOk "collections.deque.__len__" ⟨[a], []⟩ := by unfold argsOk; kernel_rfl
section
variable {prog : Program} {w : World} {A : Around} {E : Value → Shared → Prop} {s : Shared}
theorem dq_typeIs {a : Addr} {o : Obj} (h : s.heap.get? a = some o) (hc : o.cls = .type "collections.deque") : s.TypeIs (.ref a) "collections.deque" := by
  exact ⟨o, h, hc⟩
theorem len_body_dq {l : Addr} {Q : Value → Shared → Prop} (hl : s.heap.get? l = some dqE)
    (h : Q (.int 0 (s.toks + 1)) { s with toks := s.toks + 1 + 1 }) : wpAny (model prog w) A (Builtin.«len» ⟨[.ref l], []⟩) (fun fin s' => ∃ r, fin = .done (.ret r) ∧ Q r s') E s := by
  unfold Builtin.«len»
  refine wpAny_bind (m := oneArg "len" _) (wpAny_pure ?_)
  refine wpAny_bind (m := callSpecial? (.ref l) (Str.ofString "__len__")) (wpAny_callSpecial?_slot (name := Str.ofString "__len__") (dq_typeIs hl rfl) slot_dq_len
    (wpAny_call_entry slot_dq_len (dq_typeIs hl rfl) entry_dq_len ?_ (args_dq_len _)))
  unfold Builtin.«collections.deque.__len__»
  refine wpAny_bind (wpAny_pure ?_)
  unfold Builtin.Deque.size
  refine wpAny_bind (wpAny_bind (wpAny_fieldsOf hl rfl ?_))
  refine wpAny_pure (wpAny_bind (wpAny_mkInt (wpAny_pure ⟨_, rfl, ?_⟩)))
  refine wpAny_bind (wpAny_holding (wpAny_pure ?_))
  refine wpAny_bind (wpAny_letGo ?_)
  exact wpAny_bind (wpAny_mkInt (wpAny_pure ⟨_, rfl, h⟩))
theorem truthy_dq {l : Addr} {Q : Bool → Shared → Prop} (hl : s.heap.get? l = some dqE)
    (h : ∀ k, Q false { s with toks := k }) : wpAny (model prog w) A (truthy (.ref l)) Q E s := by
  have key : wpAny (model prog w) A (runValue (.builtin "len" ⟨[.ref l], []⟩)) (fun r s' => r = .int 0 (s.toks + 1) ∧ Q false s') E s := by
    refine wpAny_runValue (codeAny_builtin entry_len ?_)
    rw [Around.under_plainId plain_len _]
    exact wpAny_mono (len_body_dq (Q := fun r s' => r = .int 0 (s.toks + 1) ∧ Q false s') hl ⟨rfl, h _⟩)
      (fun fin s' h' => by obtain ⟨r, rfl, hq⟩ := h'; exact hq) fun _ _ e => e
  unfold truthy
  first
    | refine wpAny_bind (wpAny_callSpecial?_none (name := Str.ofString "__bool__") (dq_typeIs hl rfl) noBool_dq ?_)
    | refine wpAny_bind (wpAny_pure (wpAny_bind (wpAny_callSpecial?_none (name := Str.ofString "__bool__") (dq_typeIs hl rfl) noBool_dq ?_)))
  first
    | refine wpAny_bind (wpAny_specialOf (name := Str.ofString "__len__") (dq_typeIs hl rfl) slot_dq_len.lookup ?_)
    | refine wpAny_bind (wpAny_pure (wpAny_bind (wpAny_specialOf (name := Str.ofString "__len__") (dq_typeIs hl rfl) slot_dq_len.lookup ?_)))
  first
    | exact wpAny_bind (wpAny_mono key (fun r s' h' => by obtain ⟨rfl, hq⟩ := h'; exact wpAny_pure hq) fun _ _ e => e)
    | exact wpAny_bind (wpAny_pure (wpAny_bind (wpAny_mono key (fun r s' h' => by obtain ⟨rfl, hq⟩ := h'; exact wpAny_pure hq) fun _ _ e => e)))
end
end Mine
end
section
open Lean Meta Elab PySem PySem.W PyProof.Rows
set_option maxRecDepth 100000
set_option maxHeartbeats 0
set_option Elab.async false
set_option linter.unusedVariables false
namespace Mine
theorem fillH : (fun (_ : Params → Frag) (_ : OpenLaw) => True) K rw1 := by k_fill; trivial
theorem kw12 : True := by
  k_with_none
  k_with "c_enter" => (refine' code_def ?k1 ?k2 ?k3 ?k4 ?k5 ?kA ?kF ?kK ?k6 ?k7 ?zk8 ?zk9 ?kB ?_ ?c2 ?c3 ?c4 ?c5; (case kA => exact rfl); (case kF => exact rfl); (case kK => assumption); (case k1 => k_asm); (case k2 => k_asm); (case k3 => k_asm); (case k4 => k_asm); (case k5 => k_asm); (case k6 => k_is); (case k7 => k_is); (case zk8 => ktr_room); (case zk9 => first | exact BindsTo.of_eq rfl | exact binds_K (by k_in) rfl (by k_is) rfl rfl rfl | fail "c_enter: the arguments"); (case c5 => decide); (case kB => exact locs rfl); (case c2 => exact rfl); (case c3 => exact rfl); (case c4 => exact rfl); k_whole; intro zg' zL' zh' zFG' zF' zN' zB' zX' zT'; (try dsimp only); (try k_fold))
  k_with "compareOp In str str" => (k_here; (first | with_reducible refine in_ch (by with_reducible assumption) ?_ | with_reducible refine in_nil ?_ | with_reducible refine in_b (b := false) (by decide +kernel) ?_ | with_reducible refine in_b (b := true) (by decide +kernel) ?_))
  k_with "compareOp NotIn str str" => (k_here; (first | with_reducible refine notin_ch (by with_reducible assumption) ?_ | with_reducible refine notin_nil ?_))
  k_with "compareOp Eq str str" => (k_here; (first | with_reducible refine eq_b (by with_reducible assumption) ?_ | with_reducible refine eq_b (b := false) (by decide +kernel) ?_ | with_reducible refine eq_b (b := true) (by decide +kernel) ?_))
  k_with "truthy str" => (k_here; (first | with_reducible refine truthy_ch ?_ | with_reducible refine truthy_nil ?_ | with_reducible refine truthy_p (by with_reducible assumption) (by with_reducible assumption) ?_); intro zk9)
  trivial
theorem truthy_dqN {prog : Program} {w : World} {A : Around} {E : Value → Shared → Prop} {s : Shared} {h₀ : Heap} {L l : Addr} {ld : List (Addr × Obj)} {Q : Bool → Shared → Prop} (N : News h₀ L s.heap ld) (hl : (l, dqE) ∈ ld)
    (h : ∀ k, Q false { s with toks := k }) : wpAny (model prog w) A (truthy (.ref l)) Q E s := truthy_dq (N _ hl).1 h
theorem kw13 : True := by
  k_with "truthy ref" => (k_here; k_dflt (refine' truthy_dqN ?rN ?rm ?_; (case rN => k_asm); (case rm => repeat first | exact List.mem_cons_self | apply List.mem_cons_of_mem); k_whole); intro zk9)
  k_with "leaving ref" => (k_here; first
  | (refine' leave_newS ?k1 ?k0 ?k2 ?k3 ?_; (case k0 => assumption); (case k1 => assumption); (case k2 => assumption); (case k3 => k_asm); k_whole; intro zh' zR' zR2' zU'; (try dsimp only at zR' zR2' zU' ⊢))
  | (refine' leave_onSN ?k1 ?k2 ?k3 ?k4 ?_; (case k3 => assumption); (case k1 => assumption); (case k4 => assumption); (case k2 => assumption); k_whole; intro zh' zR' zR2' zU'; (try dsimp only at zR' zR2' zU' ⊢))
  | (refine' leave_raiseS ?k1 ?k0 ?k2 ?k3 ?_; (case k0 => assumption); (case k1 => assumption); (case k2 => assumption); (case k3 => k_asm); k_whole; intro zh' zt' zR' zR2' zU'; (try dsimp only at zR' zR2' zU' ⊢)))
  k_with "call ref" => (k_here; k_dflt (refine' token_c ?rB ?rF ?rX ?rN ?rT ?rK ?rG ?rg ?rb ?rW ?rz ?rn1 ?rn2 ?r12 ?r13 ?r14 ?rd ?ru ?_ ?_; (case rB => k_asm); (case rF => k_asm); (case rX => k_asm); (case rN => k_asm); (case rT => k_asm); (case rK => first | exact rfl | assumption); (case rG => assumption); (case rg => assumption); (case rb => assumption); (case rW => assumption); (case rz => assumption); (case rn1 => assumption); (case rn2 => assumption); (case r12 => assumption); (case r13 => assumption); (case r14 => assumption); (case rd => ktr_room); (case ru => ktr_units); k_whole); (all_goals first | (refine fun (ztok9 : List Nat) zqd9 zv9 zst9 zpre9 zpost9 zu9 ztl9 ztt9 zts9 zln9 zh9 ztk9 ze9 zhv9 zF9 zN9 zex9 => ?_; rcases zhv9 with ⟨zhv9, zhv8⟩ | ⟨⟨zt9, zhv9⟩, zhv8⟩ <;> subst zhv9) | refine fun ze9 zg9 zh9 zx9 ztk9 zF9 zU9 zR9 => ?_))
  trivial
section
variable {w : World} {mean : ExcName → Option Value} {mg mb : Str → Option Value} {dp un : Nat} {gd : Option (List Code)} {cn : Str} {cs : Scope} {a : Addr} {ccd : Value} {cl : List (Str × Addr)} {outer : List Env} {A₀ : Around} {base h₀ : Heap} {L : Addr} {m : Str → Option Value} {news : List (Addr × Obj)} {s : Shared} {Q E : Value → Shared → Prop}
  {lex dlex io dio pb fs : Nat} {x W : Str} {τ σ : Nat → Tok}
theorem get_c {g : Sg} {r : Res}
    (B : Below A₀ base outer h₀) (F : Fr h₀ L s.heap m) (X : (K w.params).In h₀) (N : News h₀ L s.heap (g.led w.params W x τ σ lex dlex io dio pb fs ((pb, dqE) :: (fs, dqE) :: news))) (T : Top q loose mean mg mb h₀) (hk : cs.kind = .function)
    (G : Good g x r) (hg : g.qd = false)
    (hbs : ∀ c ∈ x.cps.toList, (Str.ofString "\\").cps.toList.contains c = false) (hW : ∀ c, isQt c = true → W.cps.toList.contains c = false) (hsz : x.length ≤ 1000)
    (hn1 : ∀ p ∈ ((pb, dqE) :: (fs, dqE) :: news), p.1 ≠ dio) (hne2 : ∀ p ∈ ((pb, dqE) :: (fs, dqE) :: news), p.1 ≠ dlex) (h12 : @LT.lt Nat _ dlex lex) (h13 : @LT.lt Nat _ lex dio) (h14 : @LT.lt Nat _ dio io)
    (hd : dp + 6 < recursionLimit) (hu : un + 50 < cLine)
    (hret : ∀ (tok : List Nat) qd v st pre post u tl tt ts ln h' tk', r = .fin tok qd st post → (v = .none ∧ tok = [] ∧ qd = false ∨ (∃ t, v = .str ⟨tok.toArray⟩ t) ∧ (tok ≠ [] ∨ qd = true)) → Fr h₀ L h' m → News h₀ L h' (Mine.led w.params W x τ σ lex dlex io dio pb fs (pre.length : Nat) u (stV st ts) ln tl "" tt ((pb, dqE) :: (fs, dqE) :: news)) → x.cps.toList = pre ++ post → Q v { s with heap := h', toks := tk' })
    (herr : r = .err → ∀ gg h' e tk', Fr h₀ L gg m → gg.UpToSlots h' → RaisedSN base gg (envX cn cs L a ccd cl :: outer) e (.type "ValueError") ((pb, dqE) :: (fs, dqE) :: news) h' → E (.ref e) { s with heap := h', toks := tk' }) :
    wpAny (model pw w) (ktrTop dp un gd cn cs L a ccd cl outer) (call (.ref 699) [.ref lex]) Q E s := by
  refine wpAny_call ?_
  k_dflt (walk_at "c_enter")
  k_steps
  all_goals first
    | exact hret _ _ _ _ _ _ _ _ _ _ _ _ _ (by assumption) (.inr ⟨⟨_, rfl⟩, by assumption⟩) (by k_asm) (by k_asm) (by assumption)
    | exact hret _ _ _ _ _ _ _ _ _ _ _ _ _ (by assumption) (.inl ⟨rfl, by assumption⟩) (by k_asm) (by k_asm) (by assumption)
    | exact herr (by assumption) _ _ _ _ (by k_asm) (by assumption) (by assumption)
    | (fail "END")
end
end Mine
end
section
open Lean Meta Elab PySem PySem.W PyProof.Rows
set_option maxRecDepth 100000
set_option maxHeartbeats 0
set_option Elab.async false
set_option linter.unusedVariables false
namespace Mine
theorem fillI : (fun (_ : Params → Frag) (_ : OpenLaw) => True) K rw1 := by k_fill; trivial
theorem kw14 : True := by
  k_with_none
  k_with "c_enter" => (refine' code_def ?k1 ?k2 ?k3 ?k4 ?k5 ?kA ?kF ?kK ?k6 ?k7 ?zk8 ?zk9 ?kB ?_ ?c2 ?c3 ?c4 ?c5; (case kA => exact rfl); (case kF => exact rfl); (case kK => assumption); (case k1 => k_asm); (case k2 => k_asm); (case k3 => k_asm); (case k4 => k_asm); (case k5 => k_asm); (case k6 => k_is); (case k7 => k_is); (case zk8 => ktr_room); (case zk9 => first | exact BindsTo.of_eq rfl | exact binds_K (by k_in) rfl (by k_is) rfl rfl rfl | fail "c_enter: the arguments"); (case c5 => decide); (case kB => exact locs rfl); (case c2 => exact rfl); (case c3 => exact rfl); (case c4 => exact rfl); k_whole; intro zg' zL' zh' zFG' zF' zN' zB' zX' zT'; (try dsimp only); (try k_fold))
  k_with "compareOp In str str" => (k_here; (first | with_reducible refine in_ch (by with_reducible assumption) ?_ | with_reducible refine in_nil ?_ | with_reducible refine in_b (b := false) (by decide +kernel) ?_ | with_reducible refine in_b (b := true) (by decide +kernel) ?_))
  k_with "compareOp NotIn str str" => (k_here; (first | with_reducible refine notin_ch (by with_reducible assumption) ?_ | with_reducible refine notin_nil ?_))
  k_with "compareOp Eq str str" => (k_here; (first | with_reducible refine eq_b (by with_reducible assumption) ?_ | with_reducible refine eq_b (b := false) (by decide +kernel) ?_ | with_reducible refine eq_b (b := true) (by decide +kernel) ?_))
  k_with "truthy str" => (k_here; (first | with_reducible refine truthy_ch ?_ | with_reducible refine truthy_nil ?_ | with_reducible refine truthy_p (by with_reducible assumption) (by with_reducible assumption) ?_); intro zk9)
  trivial
theorem raisedS_drop {base G h : Heap} {l : List Env} {e t : Addr} {vs : List Value} {cls : Value} {a b c d : Addr × Obj} {news : List (Addr × Obj)} (R : RaisedS base G l e cls t vs (a :: b :: c :: d :: news) h) : RaisedS base G l e cls t vs news h := by
  obtain ⟨⟨B, h1, h0, h2, h3⟩, h4⟩ := R
  exact ⟨⟨B, h1, h0, fun q hq => h2 q (by simp [hq]), h3⟩, h4⟩
theorem kw15 : True := by
  k_with "leaving ref" => (k_here; first
  | (refine' leave_newS ?k1 ?k0 ?k2 ?k3 ?_; (case k0 => assumption); (case k1 => assumption); (case k2 => assumption); (case k3 => k_asm); k_whole; intro zh' zR' zR2' zU'; (try dsimp only at zR' zR2' zU' ⊢))
  | (refine' leave_onSN ?k1 ?k2 ?k3 ?k4 ?_; (case k3 => assumption); (case k1 => assumption); (case k4 => assumption); (case k2 => assumption); k_whole; intro zh' zR' zR2' zU'; (try dsimp only at zR' zR2' zU' ⊢))
  | (refine' leave_raiseS ?k1 ?k0 ?k2 ?k3 ?_; (case k0 => first | assumption | exact Heap.MadeExc.of (by assumption)); (case k1 => assumption); (case k2 => assumption); (case k3 => k_asm); k_whole; intro zh' zt' zR' zR2' zU'; (try dsimp only at zR' zR2' zU' ⊢)))
  k_with "call ref" => (k_here; k_dflt (refine' get_c ?rB ?rF ?rX ?rN ?rT ?rK ?rG ?rg ?rb ?rW ?rz ?rn1 ?rn2 ?r12 ?r13 ?r14 ?rd ?ru ?_ ?_; (case rB => k_asm); (case rF => k_asm); (case rX => k_asm); (case rN => k_asm); (case rT => k_asm); (case rK => first | exact rfl | assumption); (case rG => assumption); (case rg => assumption); (case rb => assumption); (case rW => assumption); (case rz => assumption); (case rn1 => assumption); (case rn2 => assumption); (case r12 => assumption); (case r13 => assumption); (case r14 => assumption); (case rd => ktr_room); (case ru => ktr_units); k_whole); (all_goals first | (refine fun (ztok9 : List Nat) zqd9 zv9 zst9 zpre9 zpost9 zu9 ztl9 ztt9 zts9 zln9 zh9 ztk9 ze9 zhv9 zF9 zN9 zex9 => ?_; rcases zhv9 with ⟨zhv9, hv7, zhv8⟩ | ⟨⟨zt9, zhv9⟩, zhv8⟩ <;> (first | subst zhv9 hv7 zhv8 | subst zhv9)) | refine fun ze9 zg9 zh9 zx9 ztk9 zF9 zU9 zR9 => ?_))
  trivial
section
variable {w : World} {mean : ExcName → Option Value} {mg mb : Str → Option Value} {dp un : Nat} {gd : Option (List Code)} {cn : Str} {cs : Scope} {a : Addr} {ccd : Value} {cl : List (Str × Addr)} {outer : List Env} {A₀ : Around} {base h₀ : Heap} {L : Addr} {m : Str → Option Value} {news : List (Addr × Obj)} {s : Shared} {Q E : Value → Shared → Prop}
  {lex dlex io dio pb fs : Nat} {x W : Str} {τ σ : Nat → Tok}
theorem next_c {g : Sg} {r : Res}
    (B : Below A₀ base outer h₀) (F : Fr h₀ L s.heap m) (X : (K w.params).In h₀) (N : News h₀ L s.heap (g.led w.params W x τ σ lex dlex io dio pb fs ((pb, dqE) :: (fs, dqE) :: news))) (T : Top q loose mean mg mb h₀) (hk : cs.kind = .function)
    (G : Good g x r) (hg : g.qd = false)
    (hbs : ∀ c ∈ x.cps.toList, (Str.ofString "\\").cps.toList.contains c = false) (hW : ∀ c, isQt c = true → W.cps.toList.contains c = false) (hsz : x.length ≤ 1000)
    (hn1 : ∀ p ∈ ((pb, dqE) :: (fs, dqE) :: news), p.1 ≠ dio) (hne2 : ∀ p ∈ ((pb, dqE) :: (fs, dqE) :: news), p.1 ≠ dlex) (h12 : @LT.lt Nat _ dlex lex) (h13 : @LT.lt Nat _ lex dio) (h14 : @LT.lt Nat _ dio io)
    (hd : dp + 7 < recursionLimit) (hu : un + 60 < cLine)
    (hret : ∀ (tok : List Nat) qd t st pre post u tl tt ts ln h' tk', r = .fin tok qd st post → (tok ≠ [] ∨ qd = true) → Fr h₀ L h' m → News h₀ L h' (Mine.led w.params W x τ σ lex dlex io dio pb fs (pre.length : Nat) u (stV st ts) ln tl "" tt ((pb, dqE) :: (fs, dqE) :: news)) → x.cps.toList = pre ++ post → Q (.str ⟨tok.toArray⟩ t) { s with heap := h', toks := tk' })
    (hstop : ∀ st post, r = .fin [] false st post → ∀ gg h' e t tk', Fr h₀ L gg m → gg.UpToSlots h' → RaisedS base gg (envX cn cs L a ccd cl :: outer) e (.type "StopIteration") t [] ((pb, dqE) :: (fs, dqE) :: news) h' → E (.ref e) { s with heap := h', toks := tk' })
    (herr : r = .err → ∀ gg h' e tk', Fr h₀ L gg m → gg.UpToSlots h' → RaisedSN base gg (envX cn cs L a ccd cl :: outer) e (.type "ValueError") ((pb, dqE) :: (fs, dqE) :: news) h' → E (.ref e) { s with heap := h', toks := tk' }) :
    wpAny (model pw w) (ktrTop dp un gd cn cs L a ccd cl outer) (call (.ref 735) [.ref lex]) Q E s := by
  refine wpAny_call ?_
  k_dflt (walk_at "c_enter")
  k_steps
  all_goals first
    | exact hret _ _ _ _ _ _ _ _ _ _ _ _ _ (by assumption) (by assumption) (by k_asm) (by k_asm) (by assumption)
    | exact herr (by assumption) _ _ _ _ (by k_asm) (by assumption) (by assumption)
    | exact hstop _ _ (by assumption) _ _ _ _ _ (by k_asm) (by assumption) (raisedS_drop (by assumption))
    | (fail "END")
end
end Mine
end
section
open Lean Meta Elab PySem PySem.W PyProof.Rows
set_option maxRecDepth 100000
set_option maxHeartbeats 0
set_option Elab.async false
set_option linter.unusedVariables false
namespace Mine
theorem fillJ : (fun (_ : Params → Frag) (_ : OpenLaw) => True) K rw1 := by k_fill; trivial
inductive Lexes : List Nat → St → Option (List (List Nat)) → Prop
  | err {post st} : lexRun post st [] false = .err → Lexes post st none
  | stop {post st st' post'} : lexRun post st [] false = .fin [] false st' post' → Lexes post st (some [])
  | word {post st tok qd st' post' r} : lexRun post st [] false = .fin tok qd st' post' → (tok ≠ [] ∨ qd = true) → Lexes post' st' r → Lexes post st (r.map (tok :: ·))
theorem lexRun_len : ∀ (post : List Nat) (st : St) (tok : List Nat) (qd : Bool) (tok' qd' st' post'), lexRun post st tok qd = .fin tok' qd' st' post' → post'.length ≤ post.length - 1 ∧ (st' = .sp ∨ st' = .dead ∧ post' = []) := by
  intro post
  induction post with
  | nil => intro st tok qd tok' qd' st' post' h; cases st <;> simp [lexRun] at h <;> simp_all
  | cons c r ih =>
    intro st tok qd tok' qd' st' post' h
    cases st with
    | sp =>
      unfold lexRun at h
      split at h
      · have := ih _ _ _ _ _ _ _ h; exact ⟨by simp; omega, this.2⟩
      · split at h
        · have := ih _ _ _ _ _ _ _ h; exact ⟨by simp; omega, this.2⟩
        · have := ih _ _ _ _ _ _ _ h; exact ⟨by simp; omega, this.2⟩
    | wd =>
      unfold lexRun at h
      split at h
      · cases h; simp
      · split at h
        · have := ih _ _ _ _ _ _ _ h; exact ⟨by simp; omega, this.2⟩
        · have := ih _ _ _ _ _ _ _ h; exact ⟨by simp; omega, this.2⟩
    | dead => simp [lexRun] at h
    | q d =>
      unfold lexRun at h
      split at h
      · have := ih _ _ _ _ _ _ _ h; exact ⟨by simp; omega, this.2⟩
      · have := ih _ _ _ _ _ _ _ h; exact ⟨by simp; omega, this.2⟩
theorem lexRun_short {post : List Nat} {st : St} {tok' qd' st' post'} (hst : st = .sp ∨ st = .dead ∧ post = []) (h : lexRun post st [] false = .fin tok' qd' st' post') (hw : tok' ≠ [] ∨ qd' = true) : post'.length < post.length := by
  cases post with
  | nil =>
    rcases hst with rfl | ⟨rfl, _⟩ <;> simp [lexRun] at h <;> simp_all
  | cons c r =>
    have := (lexRun_len _ _ _ _ _ _ _ _ h).1
    simp at this ⊢
    omega
theorem inv_start {st : St} {post : List Nat} (h : st = .sp ∨ st = .dead ∧ post = []) : inv st [] false post := by
  rcases h with rfl | ⟨rfl, rfl⟩
  · exact ⟨rfl, rfl⟩
  · exact rfl
abbrev lst (acc : List Value) (c : Nat) : Obj := { cls := .type "list", dict := none, data := .seq acc.toArray c, slots := #[] }
theorem raisedSN_sub {base G h : Heap} {l : List Env} {e : Addr} {cls : Value} {n₁ n₂ : List (Addr × Obj)} (hs : ∀ q ∈ n₂, q ∈ n₁) (R : RaisedSN base G l e cls n₁ h) : RaisedSN base G l e cls n₂ h := by
  obtain ⟨B, a0, h1, h0, h2, h3⟩ := R
  exact ⟨B, a0, h1, h0, fun q hq => h2 q (hs q hq), h3⟩
section
variable {M : Model} {A : Around} {E : Value → Shared → Prop} {s : Shared} {A₀ : Around} {base g G : Heap} {outer : List Env} {L a e t : Addr} {m : Str → Option Value} {name : Str} {scope : Scope} {cd : Value} {vs : List Value} {news : List (Addr × Obj)} {X : String}
theorem stop_S {Q : Option Value → Shared → Prop} (R : RaisedS base G (envOf name scope L a cd :: outer) e (.type X) t vs news s.heap) (hsm : G.UpToSlots s.heap) (F : Fr g L G m) (K : Below A₀ base outer g)
    (hsub : isSubtype (.type X) (.type "StopIteration") = pure true)
    (k : ∀ g', KtsTurn (outer.filterMap (·.frame)) g g' → Below A₀ base outer g' → Fr g' L s.heap m → News g' L s.heap news → Q none s) : OwitStop M A Q E (.ref e) s := by
  obtain ⟨⟨B, hB, hBG, hl, hfl, hnew⟩, htup⟩ := R
  have hL : B.get? L = none := by
    obtain ⟨_, ⟨L', _, hf, hn', _⟩, _⟩ := hfl.2.2.1
    obtain rfl : L = L' := Option.some.inj hf
    exact hn'
  obtain ⟨g', T', F', K'⟩ := kts_ground K F hBG hfl.1 hsm
  obtain ⟨ob, hob, hobc⟩ := hfl.there
  have hT : s.TypeIs (.ref e) X := (show ∃ o, s.heap.get? e = some o ∧ o.cls = .type X from ⟨ob, hob, hobc⟩)
  unfold OwitStop
  refine wpAny_isInstance hT hsub ?_
  show (if true = true then Q none s else E (.ref e) s)
  rw [if_pos rfl]
  exact k g' T' K' F' fun q hq => ⟨hfl.1 _ _ (hl q hq).1, (fun z => by have := (hl q hq).1; rw [z, hL] at this; cases this), T'.none_ _ (kts_none F.keep (hl q hq).2.1)⟩
theorem nostop_SN {Q : Option Value → Shared → Prop} {l : List Env} (R : RaisedSN base G l e (.type X) news s.heap)
    (hsub : isSubtype (.type X) (.type "StopIteration") = pure false) (k : E (.ref e) s) : OwitStop M A Q E (.ref e) s := by
  obtain ⟨B, a0, hB, hBG, hl, hfl⟩ := R
  obtain ⟨ob, hob, hobc⟩ := hfl.there
  have hT : s.TypeIs (.ref e) X := (show ∃ o, s.heap.get? e = some o ∧ o.cls = .type X from ⟨ob, hob, hobc⟩)
  unfold OwitStop
  refine wpAny_isInstance hT hsub ?_
  exact k
end
theorem sub_stop : isSubtype (.type "StopIteration") (.type "StopIteration") = pure true := by rw [isSubtype_type]; kernel_rfl
theorem sub_val : isSubtype (.type "ValueError") (.type "StopIteration") = pure false := by rw [isSubtype_type]; kernel_rfl
abbrev txts (ws : List (List Nat)) : List Str := ws.map fun w => (⟨w.toArray⟩ : Str)
section
variable {w : World} {mean : ExcName → Option Value} {mg mb : Str → Option Value} {dp un : Nat} {gd : Option (List Code)} {cn : Str} {cs : Scope} {a : Addr} {ccd : Value} {outer : List Env} {A₀ : Around} {base h₀ : Heap} {L : Addr} {m : Str → Option Value} {news : List (Addr × Obj)} {s₀ : Shared} {R : Result → Shared → Prop}
  {lex dlex io dio pb fs S : Nat} {x W : Str} {τ σ : Nat → Tok} {res : Value}
theorem ext_loop {post : List Nat} {st : St} {r : Option (List (List Nat))} (hL : Lexes post st r)
    (B : Below A₀ base outer h₀) (X : (K w.params).In h₀) (T : Top q loose mean mg mb h₀) (hk : cs.kind = .function)
    (hbs : ∀ c ∈ x.cps.toList, (Str.ofString "\\").cps.toList.contains c = false) (hW : ∀ c, isQt c = true → W.cps.toList.contains c = false) (hsz : x.length ≤ 1000)
    (hS1 : @LT.lt Nat _ io S) (hS2 : ∀ p ∈ ((pb, dqE) :: (fs, dqE) :: news), p.1 ≠ S)
    (hn1 : ∀ p ∈ ((pb, dqE) :: (fs, dqE) :: news), p.1 ≠ dio) (hne2 : ∀ p ∈ ((pb, dqE) :: (fs, dqE) :: news), p.1 ≠ dlex) (h12 : @LT.lt Nat _ dlex lex) (h13 : @LT.lt Nat _ lex dio) (h14 : @LT.lt Nat _ dio io)
    (hd : dp + 7 < recursionLimit) (hu : un + 70 < cLine)
    (hX : r = none → ∀ gg h' e tk', Fr h₀ L gg m → gg.UpToSlots h' → RaisedSN base gg (envOf cn cs L a ccd :: outer) e (.type "ValueError") news h' → R (.error (.ref e)) { s₀ with heap := h', toks := tk' }) :
    ∀ (pre : List Nat) (u tl tt ts : Tok) (ln : Int) (acc : List Value) (c : Nat) (h : Heap) (tk : Nat), Fr h₀ L h m → News h₀ L h (Mine.led w.params W x τ σ lex dlex io dio pb fs (pre.length : Nat) u (stV st ts) ln tl "" tt ((pb, dqE) :: (fs, dqE) :: (S, lst acc c) :: news)) →
      x.cps.toList = pre ++ post → (st = .sp ∨ st = .dead ∧ post = []) → acc.length ≤ pre.length →
      (∀ ws, r = some ws → ∀ vs c' h₀' h' tk', StrsAre vs (txts ws) → KtsTurn (outer.filterMap (·.frame)) h₀ h₀' → Below A₀ base outer h₀' → Fr h₀' L h' m → News h₀' L h' ((S, lst (acc ++ vs) c') :: news) → R (.ok (.ret res)) { s₀ with heap := h', toks := tk' }) →
      codeAny (model pw w) (ktrTop dp un gd cn cs L a ccd [] outer) (.builtin "list.extend.loop" ⟨[.ref S, .ref lex, res], []⟩) R { s₀ with heap := h, toks := tk } := by
  have hn1' : ∀ acc c, ∀ p ∈ ((pb, dqE) :: (fs, dqE) :: (S, lst acc c) :: news), p.1 ≠ dio := by
    intro acc c p hp
    simp only [List.mem_cons] at hp
    rcases hp with rfl | rfl | rfl | hp
    · exact hn1 _ (by simp)
    · exact hn1 _ (by simp)
    · show @Ne Nat S dio; omega
    · exact hn1 _ (by simp [hp])
  have hn2' : ∀ acc c, ∀ p ∈ ((pb, dqE) :: (fs, dqE) :: (S, lst acc c) :: news), p.1 ≠ dlex := by
    intro acc c p hp
    simp only [List.mem_cons] at hp
    rcases hp with rfl | rfl | rfl | hp
    · exact hne2 _ (by simp)
    · exact hne2 _ (by simp)
    · show @Ne Nat S dlex; omega
    · exact hne2 _ (by simp [hp])
  have hlen : x.length = x.cps.toList.length := by show x.cps.size = _; rw [Array.length_toList]
  have hfn : findIn (K w.params) (.ref 738) "__next__" = some (some (.ref 735)) := by k_is
  have hif : isFn (K w.params) (.ref 735) = true := by k_is
  induction hL with
  | @err post st he =>
    intro pre u tl tt ts ln acc c h tk Fh N hx hst hac hR
    have G : Good (⟨st, [], false, pre, post, u, tl, tt, ts, 0, ln⟩ : Sg) x (lexRun post st [] false) := ⟨hx, by simp, rfl, inv_start hst⟩
    have N2 : News h₀ L h (Sg.led (⟨st, [], false, pre, post, u, tl, tt, ts, 0, ln⟩ : Sg) w.params W x τ σ lex dlex io dio pb fs ((pb, dqE) :: (fs, dqE) :: (S, lst acc c) :: news)) := by
      show News _ _ _ (Mine.led w.params W x τ σ lex dlex io dio pb fs (pre.length : Nat) u (stV st ts) ln tl ⟨([] : List Nat).toArray⟩ tt _)
      rw [nilE]; exact N
    refine codeAny_builtin PySem.F.entry_extend_loop ?_
    rw [Around.under_plainId PySem.F.plain_extend_loop _]
    show wpAny _ _ (pyNext (.ref lex) >>= _) _ _ _
    have I := InstAt.of_news N (x := lex) (C := 738) (dx := dlex) (sl := #[]) (by simp [led, instObj]) (List.mem_cons_of_mem _ (List.mem_cons_of_mem _ (List.mem_cons_of_mem _ List.mem_cons_self)))
    refine wpAny_bind (owit_next Fh X I hfn hif (next_c (un := un + 1) (s := { s₀ with heap := h, toks := tk }) B Fh X N2 T hk G rfl hbs hW hsz (hn1' acc c) (hn2' acc c) h12 h13 h14 (by omega) (by omega) ?_ ?_ ?_))
    · intro tok qd t st' pre' post' u' tl' tt' ts' ln' h' tk' e; rw [he] at e; cases e
    · intro st' post' e; rw [he] at e; cases e
    · intro e gg h' ex tk' Fg hg Rg
      refine nostop_SN Rg sub_val ?_
      exact hX rfl gg h' ex tk' Fg hg (raisedSN_sub (by intro q hq; simp [hq]) Rg)
  | @stop post st st' post' he =>
    intro pre u tl tt ts ln acc c h tk Fh N hx hst hac hR
    have G : Good (⟨st, [], false, pre, post, u, tl, tt, ts, 0, ln⟩ : Sg) x (lexRun post st [] false) := ⟨hx, by simp, rfl, inv_start hst⟩
    have N2 : News h₀ L h (Sg.led (⟨st, [], false, pre, post, u, tl, tt, ts, 0, ln⟩ : Sg) w.params W x τ σ lex dlex io dio pb fs ((pb, dqE) :: (fs, dqE) :: (S, lst acc c) :: news)) := by
      show News _ _ _ (Mine.led w.params W x τ σ lex dlex io dio pb fs (pre.length : Nat) u (stV st ts) ln tl ⟨([] : List Nat).toArray⟩ tt _)
      rw [nilE]; exact N
    refine codeAny_builtin PySem.F.entry_extend_loop ?_
    rw [Around.under_plainId PySem.F.plain_extend_loop _]
    show wpAny _ _ (pyNext (.ref lex) >>= _) _ _ _
    have I := InstAt.of_news N (x := lex) (C := 738) (dx := dlex) (sl := #[]) (by simp [led, instObj]) (List.mem_cons_of_mem _ (List.mem_cons_of_mem _ (List.mem_cons_of_mem _ List.mem_cons_self)))
    refine wpAny_bind (owit_next Fh X I hfn hif (next_c (un := un + 1) (s := { s₀ with heap := h, toks := tk }) B Fh X N2 T hk G rfl hbs hW hsz (hn1' acc c) (hn2' acc c) h12 h13 h14 (by omega) (by omega) ?_ ?_ ?_))
    · intro tok qd t st' pre' post' u' tl' tt' ts' ln' h' tk' e hw; rw [he] at e; cases e; simp at hw
    · intro st' post' e gg h' ex t tk' Fg hg Rg
      refine stop_S Rg hg Fg B sub_stop ?_
      intro g' T' K' F' N'
      refine wpAny_pure ?_
      refine hR [] rfl [] c g' h' tk' .nil T' K' F' ?_
      rw [List.append_nil]
      exact fun q hq => N' q (List.mem_cons_of_mem _ (List.mem_cons_of_mem _ hq))
    · intro e; rw [he] at e; cases e
  | @word post st tok qd st' post' r he hw hL ih =>
    intro pre u tl tt ts ln acc c h tk Fh N hx hst hac hR
    have G : Good (⟨st, [], false, pre, post, u, tl, tt, ts, 0, ln⟩ : Sg) x (lexRun post st [] false) := ⟨hx, by simp, rfl, inv_start hst⟩
    have N2 : News h₀ L h (Sg.led (⟨st, [], false, pre, post, u, tl, tt, ts, 0, ln⟩ : Sg) w.params W x τ σ lex dlex io dio pb fs ((pb, dqE) :: (fs, dqE) :: (S, lst acc c) :: news)) := by
      show News _ _ _ (Mine.led w.params W x τ σ lex dlex io dio pb fs (pre.length : Nat) u (stV st ts) ln tl ⟨([] : List Nat).toArray⟩ tt _)
      rw [nilE]; exact N
    refine codeAny_builtin PySem.F.entry_extend_loop ?_
    rw [Around.under_plainId PySem.F.plain_extend_loop _]
    show wpAny _ _ (pyNext (.ref lex) >>= _) _ _ _
    have I := InstAt.of_news N (x := lex) (C := 738) (dx := dlex) (sl := #[]) (by simp [led, instObj]) (List.mem_cons_of_mem _ (List.mem_cons_of_mem _ (List.mem_cons_of_mem _ List.mem_cons_self)))
    refine wpAny_bind (owit_next Fh X I hfn hif (next_c (un := un + 1) (s := { s₀ with heap := h, toks := tk }) B Fh X N2 T hk G rfl hbs hW hsz (hn1' acc c) (hn2' acc c) h12 h13 h14 (by omega) (by omega) ?_ ?_ ?_))
    · intro tok1 qd1 t st1 pre1 post1 u1 tl1 tt1 ts1 ln1 h1 tk1 e1 hw1 F1 N1 hx1
      rw [he] at e1
      cases e1
      have hsh := lexRun_short hst he hw
      have hst' := (lexRun_len _ _ _ _ _ _ _ _ he).2
      have hpl : pre1.length + post'.length = pre.length + post.length := by
        have h1 := congrArg List.length hx
        have h2 := congrArg List.length hx1
        simp only [List.length_append] at h1 h2
        omega
      have hal : acc.length ≤ 1000 := by
        have h1 := congrArg List.length hx
        simp only [List.length_append] at h1
        omega
      have hS' : h1.get? S = some (lst acc c) := N1.get (by simp)
      show wpAny _ _ (updateSeq S (·.push (.str ⟨tok.toArray⟩ t)) >>= _) _ _ _
      refine wpAny_bind ?_
      refine wpAny_updateSeq hS' rfl (wpAny_pure ⟨plainId_quiet PySem.F.plain_extend_loop _, ?_⟩) (by simp [sizeLine]; omega) (by simp [sizeLine]; omega)
      have hsb := Heap.SameBut.update h1 S (Obj.mapSeq (·.push (.str ⟨tok.toArray⟩ t)))
      have hnew := Heap.get?_update_self (Obj.mapSeq (·.push (.str ⟨tok.toArray⟩ t))) hS' rfl
      have hnew' : (h1.update S (Obj.mapSeq (·.push (.str ⟨tok.toArray⟩ t)))).get? S = some (lst (acc ++ [.str ⟨tok.toArray⟩ t]) (c + 1)) := by
        rw [hnew]; simp [Obj.mapSeq]
      have hS3 : ∀ p ∈ news, p.1 ≠ S := fun p hp => hS2 p (by simp [hp])
      have hown : ∀ p ∈ ([(io, instObj 603 dio), (dio, dictOf (ioE w.params x σ (pre1.length : Nat) u1) 3), (lex, instObj 738 dlex), (dlex, dictOf (lexE w.params W τ io pb fs (stV st' ts1) ln1 tl1 "" tt1) 19), (pb, dqE), (fs, dqE)] : List (Addr × Obj)), p.1 ≠ S := by
        intro p hp
        simp only [List.mem_cons, List.not_mem_nil, or_false] at hp
        rcases hp with rfl | rfl | rfl | rfl | rfl | rfl
        · show @Ne Nat io S; omega
        · show @Ne Nat dio S; omega
        · show @Ne Nat lex S; omega
        · show @Ne Nat dlex S; omega
        · exact hS2 _ (by simp)
        · exact hS2 _ (by simp)
      have N3 := News.setAt (own := [(io, instObj 603 dio), (dio, dictOf (ioE w.params x σ (pre1.length : Nat) u1) 3), (lex, instObj 738 dlex), (dlex, dictOf (lexE w.params W τ io pb fs (stV st' ts1) ln1 tl1 "" tt1) 19), (pb, dqE), (fs, dqE)]) (d := S) (rest := news) N1 hown hS3 hsb hnew'
      rw [List.cons_append, List.cons_append, List.cons_append, List.cons_append, List.cons_append, List.cons_append, List.nil_append] at N3
      have F3 := Fr.update (a := S) F1 N1 (o := lst acc c) (by simp) hsb
      refine ih (fun e => hX (by rw [e]; rfl)) pre1 u1 tl1 tt1 ts1 ln1 (acc ++ [.str ⟨tok.toArray⟩ t]) (c + 1) _ tk1 F3 N3 hx1 hst' (by simp; omega) ?_
      intro ws ew vs c' h₀' h' tk' hv T' K' F' N'
      refine hR (tok :: ws) (by rw [ew]; rfl) (.str ⟨tok.toArray⟩ t :: vs) c' h₀' h' tk' (.cons _ _ hv) T' K' F' ?_
      rw [List.append_assoc] at N'
      exact N'
    · intro st' post' e; rw [he] at e; cases e; simp at hw
    · intro e; rw [he] at e; cases e
end
end Mine
end
section
open Lean Meta Elab PySem PySem.W PyProof.Rows
set_option maxRecDepth 100000
set_option maxHeartbeats 0
set_option Elab.async false
set_option linter.unusedVariables false
namespace Mine
theorem fillK : (fun (_ : Params → Frag) (_ : OpenLaw) => True) K rw1 := by k_fill; trivial
theorem kw16 : True := by
  k_with_none
  k_with "c_enter" => (refine' code_def ?k1 ?k2 ?k3 ?k4 ?k5 ?kA ?kF ?kK ?k6 ?k7 ?zk8 ?zk9 ?kB ?_ ?c2 ?c3 ?c4 ?c5; (case kA => exact rfl); (case kF => exact rfl); (case kK => assumption); (case k1 => k_asm); (case k2 => k_asm); (case k3 => k_asm); (case k4 => k_asm); (case k5 => k_asm); (case k6 => k_is); (case k7 => k_is); (case zk8 => ktr_room); (case zk9 => first | exact BindsTo.of_eq rfl | exact binds_K (by k_in) rfl (by k_is) rfl rfl rfl | fail "c_enter: the arguments"); (case c5 => decide); (case kB => exact locs rfl); (case c2 => exact rfl); (case c3 => exact rfl); (case c4 => exact rfl); k_whole; intro zg' zL' zh' zFG' zF' zN' zB' zX' zT'; (try dsimp only); (try k_fold))
  k_with "compareOp In str str" => (k_here; (first | with_reducible refine in_ch (by with_reducible assumption) ?_ | with_reducible refine in_nil ?_ | with_reducible refine in_b (b := false) (by decide +kernel) ?_ | with_reducible refine in_b (b := true) (by decide +kernel) ?_))
  k_with "compareOp NotIn str str" => (k_here; (first | with_reducible refine notin_ch (by with_reducible assumption) ?_ | with_reducible refine notin_nil ?_))
  k_with "compareOp Eq str str" => (k_here; (first | with_reducible refine eq_b (by with_reducible assumption) ?_ | with_reducible refine eq_b (b := false) (by decide +kernel) ?_ | with_reducible refine eq_b (b := true) (by decide +kernel) ?_))
  k_with "truthy str" => (k_here; (first | with_reducible refine truthy_ch ?_ | with_reducible refine truthy_nil ?_ | with_reducible refine truthy_p (by with_reducible assumption) (by with_reducible assumption) ?_); intro zk9)
  trivial
section
variable {w : World} {mean : ExcName → Option Value} {mg mb : Str → Option Value} {dp un : Nat} {gd : Option (List Code)} {cn : Str} {cs : Scope} {a : Addr} {ccd : Value} {cl : List (Str × Addr)} {outer : List Env} {A₀ : Around} {base h₀ : Heap} {L : Addr} {m : Str → Option Value} {news : List (Addr × Obj)} {s : Shared} {Q E : Value → Shared → Prop}
  {lex dlex io dio pb fs : Nat} {x W : Str} {τ σ : Nat → Tok}
theorem iter_c
    (B : Below A₀ base outer h₀) (F : Fr h₀ L s.heap m) (X : (K w.params).In h₀) (N : News h₀ L s.heap news) (T : Top q loose mean mg mb h₀) (hk : cs.kind = .function)
    (hd : dp + 1 < recursionLimit) (hu : un + 8 < cLine)
    (hret : ∀ h' tk', Fr h₀ L h' m → News h₀ L h' news → Q (.ref lex) { s with heap := h', toks := tk' }) :
    wpAny (model pw w) (ktrTop dp un gd cn cs L a ccd cl outer) (call (.ref 728) [.ref lex]) Q E s := by
  refine wpAny_call ?_
  k_dflt (walk_at "c_enter")
  k_steps
  all_goals exact hret _ _ (by k_asm) (by k_asm)
theorem list_c {post : List Nat} {st : St} {r : Option (List (List Nat))} {pre : List Nat} {u tl tt ts : Tok} {ln : Int} (hL : Lexes post st r)
    (B : Below A₀ base outer h₀) (F : Fr h₀ L s.heap m) (X : (K w.params).In h₀) (N : News h₀ L s.heap (Mine.led w.params W x τ σ lex dlex io dio pb fs (pre.length : Nat) u (stV st ts) ln tl "" tt ((pb, dqE) :: (fs, dqE) :: news))) (T : Top q loose mean mg mb h₀) (hk : cs.kind = .function)
    (hbs : ∀ c ∈ x.cps.toList, (Str.ofString "\\").cps.toList.contains c = false) (hW : ∀ c, isQt c = true → W.cps.toList.contains c = false) (hsz : x.length ≤ 1000)
    (hn1 : ∀ p ∈ ((pb, dqE) :: (fs, dqE) :: news), p.1 ≠ dio) (hne2 : ∀ p ∈ ((pb, dqE) :: (fs, dqE) :: news), p.1 ≠ dlex) (h12 : @LT.lt Nat _ dlex lex) (h13 : @LT.lt Nat _ lex dio) (h14 : @LT.lt Nat _ dio io)
    (hd : dp + 7 < recursionLimit) (hu : un + 80 < cLine)
    (hx : x.cps.toList = pre ++ post) (hst : st = .sp ∨ st = .dead ∧ post = [])
    (hret : ∀ ws, r = some ws → ∀ S vs c' h₀' h' tk', StrsAre vs (txts ws) → KtsTurn (outer.filterMap (·.frame)) h₀ h₀' → Below A₀ base outer h₀' → Fr h₀' L h' m → News h₀' L h' ((S, lst vs c') :: news) → Q (.ref S) { s with heap := h', toks := tk' })
    (hX : r = none → ∀ gg h' e tk', Fr h₀ L gg m → gg.UpToSlots h' → RaisedSN base gg (envOf cn cs L a ccd :: outer) e (.type "ValueError") news h' → E (.ref e) { s with heap := h', toks := tk' }) :
    wpAny (model pw w) (ktrTop dp un gd cn cs L a ccd [] outer) (call (.type "list") [.ref lex]) Q E s := by
  refine callType_codes (Q₁ := fun obj s₁ => obj = .ref s.heap.objs.size ∧ s₁ = { s with heap := s.heap.push { cls := .type "list", data := .seq #[] } }) PySem.F.called_list (PySem.F.typeCall_list_1 _) PySem.F.entry_list_init
    (code_list_new _ ⟨rfl, rfl⟩) fun obj s₁ h₁ => ?_
  obtain ⟨rfl, rfl⟩ := h₁
  have hS : (s.heap.push { cls := .type "list", data := .seq #[] }).get? s.heap.objs.size = some { cls := .type "list", data := .seq #[] } := Heap.get?_push_size _ rfl
  refine ⟨⟨_, hS, rfl⟩, PySem.F.args_list_init_2 _ _, ?_⟩
  have F1 := F.push { cls := .type "list", data := .seq #[] }
  have N1 := News.push F N { cls := .type "list", data := .seq #[] }
  have hlt : ∀ p ∈ (Mine.led w.params W x τ σ lex dlex io dio pb fs (pre.length : Nat) u (stV st ts) ln tl "" tt ((pb, dqE) :: (fs, dqE) :: news)), p.1 < s.heap.objs.size := fun p hp => Heap.lt_size (N p hp).1
  generalize hSz : s.heap.objs.size = S at *
  generalize hH : s.heap.push { cls := .type "list", data := .seq #[] } = H at *
  have hlen : x.length = x.cps.toList.length := by show x.cps.size = _; rw [Array.length_toList]
  have hit : findIn (K w.params) (.ref 738) "__iter__" = some (some (.ref 728)) := by k_is
  have hfn : findIn (K w.params) (.ref 738) "__next__" = some (some (.ref 735)) := by k_is
  have hif : isFn (K w.params) (.ref 728) = true := by k_is
  have hle : findIn (K w.params) (.ref 738) "__len__" = some none := by k_is
  have hhi : findIn (K w.params) (.ref 738) "__length_hint__" = some none := by k_is
  show wpAny _ _ (do let old ← Builtin.List.listItems (.ref S); Builtin.List.listUpdate (.ref S) (fun _ => #[]); letGo old.toList.reverse; Builtin.List.listExtendWith (.ref S) (.ref lex) .none) _ _ _
  refine wpAny_bind ?_
  unfold Builtin.List.listItems
  refine wpAny_bind (wpAny_seqItems hS rfl (wpAny_pure ?_))
  show wpAny _ _ (updateSeq S (fun _ => #[]) >>= fun _ => letGo (#[] : Array Value).toList.reverse >>= fun _ => Builtin.List.listExtendWith (.ref S) (.ref lex) .none) _ _ _
  refine wpAny_bind (wpAny_updateSeq hS rfl ?_)
  refine wpAny_bind (wpAny_letGo ?_)
  have hlx : lex < S := hlt (lex, instObj 738 dlex) (by simp)
  have hioS : io < S := hlt (io, instObj 603 dio) (by simp)
  have hap : ∀ p ∈ (Mine.led w.params W x τ σ lex dlex io dio pb fs (pre.length : Nat) u (stV st ts) ln tl "" tt ((pb, dqE) :: (fs, dqE) :: news)), p.1 ≠ S := fun p hp => Nat.ne_of_lt (hlt p hp)
  have step : ∀ (H : Heap) (f : Array Value → Array Value) (c : Nat) (acc : Array Value) (acc' : List Value) (c' : Nat), Fr h₀ L H m → News h₀ L H ((S, { cls := .type "list", data := .seq acc c }) :: (Mine.led w.params W x τ σ lex dlex io dio pb fs (pre.length : Nat) u (stV st ts) ln tl "" tt ((pb, dqE) :: (fs, dqE) :: news))) →
      (Obj.mapSeq f { cls := .type "list", data := .seq acc c }) = lst acc' c' →
      Fr h₀ L (H.update S (Obj.mapSeq f)) m ∧ News h₀ L (H.update S (Obj.mapSeq f)) ((S, lst acc' c') :: (Mine.led w.params W x τ σ lex dlex io dio pb fs (pre.length : Nat) u (stV st ts) ln tl "" tt ((pb, dqE) :: (fs, dqE) :: news))) := by
    intro H f c acc acc' c' F N e
    have hsb := Heap.SameBut.update H S (Obj.mapSeq f)
    have hg := Heap.get?_update_self (Obj.mapSeq f) (N.get List.mem_cons_self) rfl
    rw [e] at hg
    exact ⟨Fr.update (a := S) F N List.mem_cons_self hsb, N.setHead hap hsb hg⟩
  obtain ⟨F2, N2⟩ := step H (fun _ => #[]) 0 #[] [] 0 F1 N1 rfl
  show wpAny _ _ _ _ _ { s with heap := H.update S (Obj.mapSeq fun x => #[]) }
  generalize H.update S (Obj.mapSeq fun x => #[]) = H2 at *
  have inst : ∀ {H : Heap} {o : Obj}, News h₀ L H ((S, o) :: (Mine.led w.params W x τ σ lex dlex io dio pb fs (pre.length : Nat) u (stV st ts) ln tl "" tt ((pb, dqE) :: (fs, dqE) :: news))) → InstAt H lex (instObj 738 dlex) 738 (some (dictOf (lexE w.params W τ io pb fs (stV st ts) ln tl "" tt) 19)) := fun N =>
    InstAt.of_news N (x := lex) (C := 738) (dx := dlex) (sl := #[]) (by simp [led, instObj]) (by simp)
  unfold Builtin.List.listExtendWith
  refine wpAny_bind ((inst N2).type.here ?_)
  have h1 : Builtin.List.listSameRef (.ref S) (.ref lex) = false := by show (S == lex) = false; exact beq_eq_false_iff_ne.mpr (Nat.ne_of_gt hlx)
  have h2 : (Value.ref 738 == Value.type "list") = false := by decide
  have h3 : (Value.ref 738 == Value.type "tuple") = false := by decide
  simp only [h1, h2, h3, Bool.or_false, Bool.false_eq_true, if_false]
  refine wpAny_bind (owit_iter F2 X (inst N2) hit hif (iter_c (dp := dp) (un := un + 2) (s := { s with heap := H2 }) B F2 X N2 T hk (by omega) (by omega) ?_))
  intro h' tk' F3 N3
  refine owit_it F3 X (inst N3) hfn ?_
  refine wpAny_bind (wpAny_holding ?_)
  unfold Builtin.List.listLengthHint
  refine wpAny_bind (wpAny_bind ((inst N3).type.here ((looks_findIn (X.keeps F3.keep) hle).here ?_)))
  show wpAny _ _ (specialOf (Value.ref lex) (Str.ofString "__length_hint__") >>= _) _ _ _
  refine wpAny_bind (wpAny_bind ((inst N3).type.here ((looks_findIn (X.keeps F3.keep) hhi).here ?_)))
  refine wpAny_pure ?_
  show wpAny _ _ (rule "list.extend.makes-room" >>= fun _ => Builtin.List.listTouch (.ref S) >>= fun _ =>
    again (.builtin "list.extend.loop" ⟨[.ref S, .ref lex, .none], []⟩)) _ _ _
  refine wpAny_bind (wpAny_rule ?_)
  refine wpAny_bind ?_
  show wpAny _ _ (updateSeq S (·.push .none) >>= fun _ => updateSeq S (·.pop)) _ _ _
  refine wpAny_bind (wpAny_updateSeq (N3.get List.mem_cons_self) rfl ?_)
  obtain ⟨F4, N4⟩ := step h' (·.push .none) 0 _ [.none] 1 F3 N3 rfl
  refine wpAny_updateSeq (hz := by seq_fits) (N4.get List.mem_cons_self) rfl ?_
  obtain ⟨F5, N5⟩ := step _ (·.pop) 1 _ [] 2 F4 N4 rfl
  refine wpAny_pure ⟨plainId_quiet PySem.F.plain_extend_loop _, ?_⟩
  have N6 : News h₀ L ((h'.update S (Obj.mapSeq (·.push .none))).update S (Obj.mapSeq (·.pop))) (Mine.led w.params W x τ σ lex dlex io dio pb fs (pre.length : Nat) u (stV st ts) ln tl "" tt ((pb, dqE) :: (fs, dqE) :: (S, lst [] 2) :: news)) := by
    intro p hp
    apply N5
    simp only [List.mem_cons] at hp ⊢
    grind
  refine ext_loop (un := un + 1) (s₀ := s) hL B X T hk hbs hW hsz hioS (fun p hp => hap p (by simp only [List.mem_cons] at hp ⊢; grind)) hn1 hne2 h12 h13 h14 hd (by omega) ?_ pre u tl tt ts ln [] 2 _ tk' F5 N6 hx hst (by simp) ?_
  · intro e gg h' ex tk' Fg hg R
    exact hX e gg h' ex tk' Fg hg R
  · intro ws e vs c' h₀' h' tk' hv T' K' F' N'
    exact ⟨rfl, hret ws e S vs c' h₀' h' tk' hv T' K' F' N'⟩
end
end Mine
end
section
open Lean Meta Elab PySem PySem.W PyProof.Rows
set_option maxRecDepth 100000
set_option maxHeartbeats 0
set_option Elab.async false
set_option linter.unusedVariables false
namespace Mine
theorem fillL : (fun (_ : Params → Frag) (_ : OpenLaw) => True) K rw1 := by k_fill; trivial
theorem kw17 : True := by
  k_with_none
  k_with "c_enter" => (refine' code_def ?k1 ?k2 ?k3 ?k4 ?k5 ?kA ?kF ?kK ?k6 ?k7 ?zk8 ?zk9 ?kB ?_ ?c2 ?c3 ?c4 ?c5; (case kA => exact rfl); (case kF => exact rfl); (case kK => assumption); (case k1 => k_asm); (case k2 => k_asm); (case k3 => k_asm); (case k4 => k_asm); (case k5 => k_asm); (case k6 => k_is); (case k7 => k_is); (case zk8 => ktr_room); (case zk9 => first | exact BindsTo.of_eq rfl | exact binds_K (by k_in) rfl (by k_is) rfl rfl rfl | fail "c_enter: the arguments"); (case c5 => decide); (case kB => exact locs rfl); (case c2 => exact rfl); (case c3 => exact rfl); (case c4 => exact rfl); k_whole; intro zg' zL' zh' zFG' zF' zN' zB' zX' zT'; (try dsimp only); (try k_fold))
  k_with "compareOp In str str" => (k_here; (first | with_reducible refine in_ch (by with_reducible assumption) ?_ | with_reducible refine in_nil ?_ | with_reducible refine in_b (b := false) (by decide +kernel) ?_ | with_reducible refine in_b (b := true) (by decide +kernel) ?_))
  k_with "compareOp NotIn str str" => (k_here; (first | with_reducible refine notin_ch (by with_reducible assumption) ?_ | with_reducible refine notin_nil ?_))
  k_with "compareOp Eq str str" => (k_here; (first | with_reducible refine eq_b (by with_reducible assumption) ?_ | with_reducible refine eq_b (b := false) (by decide +kernel) ?_ | with_reducible refine eq_b (b := true) (by decide +kernel) ?_))
  k_with "truthy str" => (k_here; (first | with_reducible refine truthy_ch ?_ | with_reducible refine truthy_nil ?_ | with_reducible refine truthy_p (by with_reducible assumption) (by with_reducible assumption) ?_); intro zk9)
  trivial
section
variable {w : World} {A : Around} {R : Result → Shared → Prop} {h : Heap} {g : Array GenState} {d : Drawn} {t : Nat} {os : OsState}
theorem here587 (X : (K w.params).In h) : Looks (model pw w) h (Bind.madeHere "object.__new__" (.ref 603)) () := Looks.of_peek X (by kernel_rfl)
theorem made587 (X : (K w.params).In h) : Looks (model pw w) h (Bind.madeBy (.ref 603)) none := Looks.of_peek X (by kernel_rfl)
theorem sub587 (X : (K w.params).In h) : Looks (model pw w) h (isSubtype (.ref 603) (.ref 603)) true := Looks.of_peek X (by kernel_rfl)
theorem call587 (X : (K w.params).In h) : Looks (model pw w) h (specialOf (.ref 603) "__call__") (some (.builtin "type.__call__")) := looks_specialIn X (by k_is)
theorem typ587 (X : (K w.params).In h) : Looks (model pw w) h (isInstance (.ref 603) (.type "type")) true := looks_instIn X (by k_is)
theorem ist587 (X : (K w.params).In h) : Looks (model pw w) h (isType (.ref 603)) true := Looks.of_peek X (by kernel_rfl)
theorem top587 (X : (K w.params).In h) : Looks (model pw w) h (isSubtype (.ref 603) (.type "object")) true := Looks.of_peek X (by kernel_rfl)
theorem base587 (X : (K w.params).In h) : Looks (model pw w) h (Bind.staticBase (.ref 603)) (.type "object") := Looks.of_peek X (by kernel_rfl)
theorem madeObj : Looks (model pw w) h (Bind.madeBy (.type "object")) (some "object.__new__") := Looks.of_peek (K := []) (fun _ _ e => nomatch e) (by kernel_rfl)
theorem cd587 (X : (K w.params).In h) : ∃ cd sl, h.get? 603 = some ⟨.type "type", none, .cls cd, sl⟩ ∧ cd.abstract = false ∧ cd.hasDel = false ∧ cd.mro.isEmpty = false :=
  ⟨_, _, X 603 _ (by k_is), rfl, rfl, rfl⟩
theorem objnew (X : (K w.params).In h)
    (hq : R (.ok (.ret (.ref (h.objs.size + 1)))) ⟨(h.push emptyDict).push (instObj 603 h.objs.size), g, d, t, os⟩) :
    codeAny (model pw w) A (.call (.builtin "object.__new__") ⟨[.ref 603], []⟩) R ⟨h, g, d, t, os⟩ := by
  obtain ⟨cd, sl, hC, e1, e2, e4⟩ := cd587 X
  have here := here587 X
  have ist := ist587 X
  have top := top587 X
  have base := base587 X
  have mo := madeObj (w := w) (h := h)
  have F := PySem.F.objNew
  refine codeAny_call_builtin_code (Code.quiet_builtin _ F.quiet) ?_
  simp only [checkBuiltinCall, F.kind, F.split, F.row]
  have args : Bind.checkArgs "object.__new__" ⟨.hand, "object.__new__", "__new__", .cls, []⟩ ⟨[.ref 603], []⟩ = pure () := by kernel_rfl
  rw [args]
  repeat (first | simp only [bne_self_eq_false, Bool.false_eq_true, if_false] | lk)
  refine codeAny_builtin F.entry ?_
  unfold Builtin.«object.__new__»
  have fin : ∀ A', wpAny (model pw w) A' (do
      let d ← if typeHasDict (.ref 603) then some <$> alloc { cls := .type "dict", data := .dict #[] } else pure none
      ret (← newObj (.ref 603) .plain d)) (fun fin s' => match fin with | .done f => R (.ok f) s' | .again c' => c'.quiet = true ∧ codeAny (model pw w) A c' R s') (fun e s' => R (.error e) s') ⟨h, g, d, t, os⟩ := by
    intro A'
    show wpAny _ _ ((alloc emptyDict >>= fun x => pure (some x)) >>= _) _ _ _
    refine wpAny_bind (wpAny_bind (wpAny_alloc (wpAny_pure (wpAny_bind ?_))))
    show wpAny _ _ (newObjAsIs _ _ _) _ _ _
    unfold newObjAsIs classHasDel
    refine wpAny_bind (wpAny_alloc (wpAny_bind (wpAny_bind (wpAny_load (Heap.get?_push_of_some _ (Heap.get?_push_of_some _ hC)) (wpAny_pure ?_)))))
    rw [e2]
    refine wpAny_pure (wpAny_pure ?_)
    show R _ _
    rw [Heap.size_push]
    exact hq
  repeat (first | simp only [e1, Bool.false_eq_true, if_false] | exact fin _ | lk)
end
section
variable {w : World} {mean : ExcName → Option Value} {mg mb : Str → Option Value} {dp un : Nat} {gd : Option (List Code)} {cn : Str} {cs : Scope} {a : Addr} {ccd : Value} {cl : List (Str × Addr)} {outer : List Env} {A₀ : Around} {base h₀ : Heap} {L : Addr} {m : Str → Option Value} {news : List (Addr × Obj)} {s : Shared} {Q E : Value → Shared → Prop} {x : Str} {t : Tok}
theorem getnew_c
    (B : Below A₀ base outer h₀) (F : Fr h₀ L s.heap m) (X : (K w.params).In h₀) (N : News h₀ L s.heap news) (T : Top q loose mean mg mb h₀) (hk : cs.kind = .function)
    (hd : dp + 1 < recursionLimit) (hu : un + 8 < cLine)
    (hret : ∀ h' tk', Fr h₀ L h' m → News h₀ L h' news → Q (.ref 96) { s with heap := h', toks := tk' }) :
    wpAny (model pw w) (ktrTop dp un gd cn cs L a ccd cl outer) (getAttr (.ref 603) "__new__") Q E s := by
  exact cls_sm (C := 603) (p := 100) (mc := .type "type") (f := .ref 96) (rest := []) F X (by k_is) (by k_is) (by first | k_is | kernel_rfl) (by first | k_is | kernel_rfl) (by first | k_is | kernel_rfl) (hret _ _ F N)
end
end Mine
end
section
open Lean Meta Elab PySem PySem.W PyProof.Rows
set_option maxRecDepth 100000
set_option maxHeartbeats 0
set_option Elab.async false
set_option linter.unusedVariables false
namespace Mine
theorem fillM : (fun (_ : Params → Frag) (_ : OpenLaw) => True) K rw1 := by k_fill; trivial
theorem kw18 : True := by
  k_with_none
  k_with "c_enter" => (refine' code_def ?k1 ?k2 ?k3 ?k4 ?k5 ?kA ?kF ?kK ?k6 ?k7 ?zk8 ?zk9 ?kB ?_ ?c2 ?c3 ?c4 ?c5; (case kA => exact rfl); (case kF => exact rfl); (case kK => assumption); (case k1 => k_asm); (case k2 => k_asm); (case k3 => k_asm); (case k4 => k_asm); (case k5 => k_asm); (case k6 => k_is); (case k7 => k_is); (case zk8 => ktr_room); (case zk9 => first | exact BindsTo.of_eq rfl | exact binds_K (by k_in) rfl (by k_is) rfl rfl rfl | fail "c_enter: the arguments"); (case c5 => decide); (case kB => exact locs rfl); (case c2 => exact rfl); (case c3 => exact rfl); (case c4 => exact rfl); k_whole; intro zg' zL' zh' zFG' zF' zN' zB' zX' zT'; (try dsimp only); (try k_fold))
  k_with "compareOp In str str" => (k_here; (first | with_reducible refine in_ch (by with_reducible assumption) ?_ | with_reducible refine in_nil ?_ | with_reducible refine in_b (b := false) (by decide +kernel) ?_ | with_reducible refine in_b (b := true) (by decide +kernel) ?_))
  k_with "compareOp NotIn str str" => (k_here; (first | with_reducible refine notin_ch (by with_reducible assumption) ?_ | with_reducible refine notin_nil ?_))
  k_with "compareOp Eq str str" => (k_here; (first | with_reducible refine eq_b (by with_reducible assumption) ?_ | with_reducible refine eq_b (b := false) (by decide +kernel) ?_ | with_reducible refine eq_b (b := true) (by decide +kernel) ?_))
  k_with "truthy str" => (k_here; (first | with_reducible refine truthy_ch ?_ | with_reducible refine truthy_nil ?_ | with_reducible refine truthy_p (by with_reducible assumption) (by with_reducible assumption) ?_); intro zk9)
  trivial
theorem low2 {a b : Addr × Obj} {news : List (Addr × Obj)} {d : Nat} (l : ∀ p ∈ (a :: b :: news), p.1 < d) : ∀ p ∈ news, p.1 < d := fun p hp => l p (List.mem_cons_of_mem _ (List.mem_cons_of_mem _ hp))
theorem news_d34 {h₀ h : Heap} {L : Addr} {p1 p2 a b : Addr × Obj} {news : List (Addr × Obj)} (N : News h₀ L h (p1 :: p2 :: a :: b :: news)) : News h₀ L h (p1 :: p2 :: news) := fun p hp => N p (by simp only [List.mem_cons] at hp ⊢; rcases hp with h | h | h <;> simp [h])
theorem objnewN {w : World} {A : Around} {s : Shared} {h₀ : Heap} {L : Addr} {m : Str → Option Value} {news : List (Addr × Obj)} {Q E : Value → Shared → Prop} (F : Fr h₀ L s.heap m) (N : News h₀ L s.heap news) (X : (K w.params).In h₀)
    (h : ∀ (x dx : Nat) h', Fr h₀ L h' m → News h₀ L h' ((x, instObj 603 dx) :: (dx, emptyDict) :: news) → (∀ p ∈ news, p.1 < dx) → dx < x → Q (.ref x) { s with heap := h' }) :
    wpAny (model pw w) A (call (.builtin "object.__new__") [.ref 603]) Q E s := by
  obtain ⟨hh, g, d, t, os⟩ := s
  refine wpAny_call (objnew (X.keeps F.keep) (h _ hh.objs.size _ ((F.push _).push _) ?_ (fun p hp => Heap.lt_size (N p hp).1) (Nat.lt_succ_self _)))
  have := (N.push F emptyDict).push (F.push _) (instObj 603 hh.objs.size)
  rwa [Heap.size_push] at this
theorem kw19 : True := by
  k_with "c_both" => (refine' kp_both ?k1 ?k2 ?k3 ?k4 ?k5 ?kA ?kF ?kK ?k6 ?k7 ?zk8 ?kV ?kX ?kQ ?kM ?kN ?kD ?kR ?kP ?kS ?kT ?kB ?_ ?c2 ?c3 ?c4 ?c5; (case kA => exact rfl); (case kF => exact rfl); (case kK => assumption); (case k1 => k_asm); (case k2 => k_asm); (case k3 => k_asm); (case k4 => k_asm); (case k5 => k_asm); (case k6 => k_is); (case k7 => k_is); (case zk8 => ktr_room); (case kV => kp_lit); (case kX => kp_lit); (case kQ => exact rfl); (case kM => exact rfl); (case kN => exact rfl); (case kD => kp_flats); (case kR => exact rfl); (case kP => exact rfl); (case kS => exact fun _ => rfl); (case kT => exact fun _ _ => rfl); (case kB => exact fun _ _ => locs rfl); (case c5 => decide); (case c2 => exact rfl); (case c3 => exact rfl); (case c4 => exact rfl); k_whole; intro zC' zD' zo' zg' zL' zh' tk' l1 l2 lo' hs' fs' zFG' zF' zN' zB' zX' zT'; (try dsimp only); (try k_fold))
  k_with "call builtin:object.__new__" => (k_here; k_dflt (refine' objnewN ?rF ?rN ?rX ?_; (case rF => k_asm); (case rN => k_asm); (case rX => k_asm); k_whole); intro zx9 zd9 zh9 zF9 zN9 zl9 zl8; (try dsimp only))
  trivial
section
variable {w : World} {mean : ExcName → Option Value} {mg mb : Str → Option Value} {dp un : Nat} {gd : Option (List Code)} {cn : Str} {cs : Scope} {a : Addr} {ccd : Value} {cl : List (Str × Addr)} {outer : List Env} {A₀ : Around} {base h₀ : Heap} {L : Addr} {m : Str → Option Value} {news : List (Addr × Obj)} {s : Shared} {Q E : Value → Shared → Prop} {x : Str} {t : Tok}
theorem new_c
    (B : Below A₀ base outer h₀) (F : Fr h₀ L s.heap m) (X : (K w.params).In h₀) (N : News h₀ L s.heap news) (T : Top q loose mean mg mb h₀) (hk : cs.kind = .function)
    (hd : dp + 1 < recursionLimit) (hu : un + 12 < cLine)
    (hret : ∀ (io dio : Nat) h' tk', dio < io → (∀ p ∈ news, p.1 < dio) → Fr h₀ L h' m → News h₀ L h' ((io, instObj 603 dio) :: (dio, emptyDict) :: news) → Q (.ref io) { s with heap := h', toks := tk' }) :
    wpAny (model pw w) (ktrTop dp un gd cn cs L a ccd cl outer) (call (.ref 96) [.ref 603, .str x t]) Q E s := by
  refine wpAny_call ?_
  k_dflt (walk_at "c_both")
  k_steps
  all_goals exact hret _ _ _ _ (by assumption) (low2 (by assumption)) (by k_asm) (news_d34 (by k_asm))
end
end Mine
end
section
open Lean Meta Elab PySem PySem.W PyProof.Rows
set_option maxRecDepth 100000
set_option maxHeartbeats 0
set_option Elab.async false
set_option linter.unusedVariables false
namespace Mine
theorem fillN : (fun (_ : Params → Frag) (_ : OpenLaw) => True) K rw1 := by k_fill; trivial
theorem kw20 : True := by
  k_with_none
  k_with "c_enter" => (refine' code_def ?k1 ?k2 ?k3 ?k4 ?k5 ?kA ?kF ?kK ?k6 ?k7 ?zk8 ?zk9 ?kB ?_ ?c2 ?c3 ?c4 ?c5; (case kA => exact rfl); (case kF => exact rfl); (case kK => assumption); (case k1 => k_asm); (case k2 => k_asm); (case k3 => k_asm); (case k4 => k_asm); (case k5 => k_asm); (case k6 => k_is); (case k7 => k_is); (case zk8 => ktr_room); (case zk9 => first | exact BindsTo.of_eq rfl | exact binds_K (by k_in) rfl (by k_is) rfl rfl rfl | fail "c_enter: the arguments"); (case c5 => decide); (case kB => exact locs rfl); (case c2 => exact rfl); (case c3 => exact rfl); (case c4 => exact rfl); k_whole; intro zg' zL' zh' zFG' zF' zN' zB' zX' zT'; (try dsimp only); (try k_fold))
  k_with "compareOp In str str" => (k_here; (first | with_reducible refine in_ch (by with_reducible assumption) ?_ | with_reducible refine in_nil ?_ | with_reducible refine in_b (b := false) (by decide +kernel) ?_ | with_reducible refine in_b (b := true) (by decide +kernel) ?_))
  k_with "compareOp NotIn str str" => (k_here; (first | with_reducible refine notin_ch (by with_reducible assumption) ?_ | with_reducible refine notin_nil ?_))
  k_with "compareOp Eq str str" => (k_here; (first | with_reducible refine eq_b (by with_reducible assumption) ?_ | with_reducible refine eq_b (b := false) (by decide +kernel) ?_ | with_reducible refine eq_b (b := true) (by decide +kernel) ?_))
  k_with "truthy str" => (k_here; (first | with_reducible refine truthy_ch ?_ | with_reducible refine truthy_nil ?_ | with_reducible refine truthy_p (by with_reducible assumption) (by with_reducible assumption) ?_); intro zk9)
  trivial
section
variable {w : World} {mean : ExcName → Option Value} {mg mb : Str → Option Value} {dp un : Nat} {gd : Option (List Code)} {cn : Str} {cs : Scope} {a : Addr} {ccd : Value} {cl : List (Str × Addr)} {outer : List Env} {A₀ : Around} {base h₀ : Heap} {L : Addr} {m : Str → Option Value} {news : List (Addr × Obj)} {s : Shared} {Q E : Value → Shared → Prop} {x : Str} {t : Tok}
theorem under587 : (ktrTop dp un gd cn cs L a ccd cl outer).under (.builtin "type.__call__" ⟨[.ref 603, .str x t], []⟩) = ktrTop (dp + 1) (un + 1) gd cn cs L a ccd cl outer := rfl
theorem mro587 {h : Heap} (X : (K w.params).In h) : Looks (model pw w) h (mroOf (.ref 603)) [.ref 603, .ref 126, .ref 99, .type "object"] := Looks.of_peek X (by kernel_rfl)
theorem make587
    (B : Below A₀ base outer h₀) (F : Fr h₀ L s.heap m) (X : (K w.params).In h₀) (N : News h₀ L s.heap news) (T : Top q loose mean mg mb h₀) (hk : cs.kind = .function)
    (hd : dp + 2 < recursionLimit) (hu : un + 14 < cLine)
    (hret : ∀ (io dio : Nat) h' tk', dio < io → (∀ p ∈ news, p.1 < dio) → Fr h₀ L h' m → News h₀ L h' ((io, instObj 603 dio) :: (dio, emptyDict) :: news) →
      wpAny (model pw w) (ktrTop (dp + 1) (un + 1) gd cn cs L a ccd cl outer) (call (.ref 373) [.ref io, .str x t]) (fun v s' => v = .none ∧ Q (.ref io) s') E { s with heap := h', toks := tk' }) :
    wpAny (model pw w) (ktrTop dp un gd cn cs L a ccd cl outer) (call (.ref 603) [.str x t]) Q E s := by
  have XH := X.keeps F.keep
  obtain ⟨cd, sl, hC, e1, e2, e4⟩ := cd587 XH
  have call := call587 XH
  have typ := typ587 XH
  have made := made587 XH
  have mro := mro587 XH
  refine wpAny_call (codeAny_of_tree ?_)
  show wpAny _ _ (callAny (.ref 603) _) _ _ _
  refine nd_load hC ?_
  show wpAny _ _ (callAny.viaDunder (.ref 603) _) _ _ _
  unfold callAny.viaDunder
  refine wpAny_bind (call.here ?_)
  dsimp only
  rw [tc_bind]
  refine wpAny_bind (wpAny_pure (wpAny_bind (wpAny_pure ?_)))
  refine wpAny_pure (a := Fin.again (.call (.builtin "type.__call__") ⟨[.ref 603, .str x t], []⟩)) (And.intro rfl ?_)
  refine codeAny_call_builtin_at (Code.quiet_builtin _ (by decide +kernel)) entry_typeCall (check_slot tc_kind tc_split typ (tc_args _ _ _) ?_)
  unfold Builtin.«type.__call__»
  rw [under587]
  refine wpAny_bind (mro.here ?_)
  refine wpAny_bind (made.here ?_)
  refine wpAny_bind (getnew_c (dp := dp + 1) (un := un + 1) B F X N T hk (by omega) (by omega) ?_)
  intro h1 tk1 F1 N1
  refine wpAny_bind (wpAny_holding (new_c (dp := dp + 1) (un := un + 1) (s := { s with heap := h1, toks := tk1 }) B F1 X N1 T hk (by omega) (by omega) ?_))
  intro io dio h2 tk2 l1 l2 F2 N2
  have I2 := InstAt.of_news N2 (x := io) (C := 603) (dx := dio) (sl := #[]) (by simp [instObj]) (by simp : (dio, emptyDict) ∈ _)
  refine wpAny_bind (wpAny_bind (I2.type.here ((sub587 (X.keeps F2.keep)).here ?_)))
  simp only [Bool.not_true, Bool.false_eq_true, if_false]
  refine wpAny_bind (wpAny_holding (special_fn (name := "__init__") (args := [.str x t]) (f := 373) (X.keeps F2.keep) I2 (by k_is) (by k_is) ?_))
  refine wpAny_mono (hret io dio h2 tk2 l1 l2 F2 N2) (fun v s' h' => ?_) (fun _ _ e => e)
  obtain ⟨rfl, hq⟩ := h'
  exact wpAny_pure hq
end
end Mine
end
section
open Lean Meta Elab PySem PySem.W PyProof.Rows
set_option maxRecDepth 100000
set_option maxHeartbeats 0
set_option Elab.async false
set_option linter.unusedVariables false
namespace Mine
theorem mro_dq : mroOf (.type "collections.deque") = pure [.type "collections.deque", .type "object"] := by rw [mroOf_type]; kernel_rfl
theorem lookup_dq_new : typeLookup (.type "collections.deque") "__new__" = pure (some (.builtin "collections.deque.__new__")) := by rw [typeLookup_type, builtinLookup_eq_fast]; kernel_rfl
theorem slot_dq_init : Slot "collections.deque" "__init__" "collections.deque.__init__" :=
  .of (owner := "collections.deque") (n := "__init__") (by rw [typeLookup_type, builtinLookup_eq_fast]; kernel_rfl) (by decide +kernel) (by decide +kernel) (by decide +kernel)
    (by first | exact .inl (by decide +kernel) | exact .inr (by decide +kernel)) (by rw [isSubtype_type]; kernel_rfl)
theorem called_dq : TypeCalled "collections.deque" "collections.deque.__new__" "collections.deque.__init__" :=
  ⟨by decide +kernel, by decide +kernel, ⟨_, _, mro_dq⟩, madeBy_type mro_dq lookup_dq_new (by decide +kernel), by decide +kernel, by rw [isSubtype_type]; kernel_rfl, slot_dq_init⟩
theorem typeCall_dq : checkTypeCall "collections.deque" ⟨[], []⟩ = pure () := by kernel_rfl
theorem newCall_dq : checkBuiltinCall "collections.deque.__new__" ⟨[.type "collections.deque"], []⟩ = pure () := by kernel_rfl
theorem entry_dq_new : entryFor table "collections.deque.__new__" = some Builtin.«collections.deque.__new__» := entryFor_of_tree (by kernel_rfl)
theorem entry_dq_init : entryFor table "collections.deque.__init__" = some Builtin.«collections.deque.__init__» := entryFor_of_tree (by kernel_rfl)
theorem plain_dq_new : plainId "collections.deque.__new__" = true := by decide +kernel
theorem args_dq_init (a : Value) : argsOk "collections.deque.__init__" ⟨[a], []⟩ := by unfold argsOk; kernel_rfl
theorem sub_dq_self : isSubtype (.type "collections.deque") (.type "collections.deque") = pure true := by rw [isSubtype_type]; kernel_rfl
section
variable {prog : Program} {w : World} {A : Around} {E : Value → Shared → Prop} {s : Shared}
theorem code_dq_new {Q₁ : Value → Shared → Prop}
    (h : Q₁ (.ref s.heap.objs.size) { s with heap := s.heap.push dqE }) :
    codeAny (model prog w) A (.call (.builtin "collections.deque.__new__") ⟨[.type "collections.deque"], []⟩) (wants Q₁ E) s := by
  refine codeAny_of_tree ?_
  show wpAny _ A.in1 (do checkBuiltinCall "collections.deque.__new__" ⟨[.type "collections.deque"], []⟩; again (.builtin "collections.deque.__new__" ⟨[.type "collections.deque"], []⟩)) _ _ s
  refine wpAny_bind (wpAny_of_eq newCall_dq (wpAny_pure ⟨plainId_quiet plain_dq_new _, codeAny_builtin entry_dq_new ?_⟩))
  rw [Around.under_plainId plain_dq_new _]
  have hsub : isSubtype (.type "collections.deque") (.type Builtin.Deque.ty) = pure true := sub_dq_self
  unfold Builtin.«collections.deque.__new__» Builtin.Deque.newArgs Builtin.Deque.new
  obtain ⟨hp, g, d, tk, os⟩ := s
  wp_walk
  exact h
theorem call_dq {Q : Value → Shared → Prop} (h : ∀ h', h'.get? s.heap.objs.size = some dqE → Heap.SameBut s.heap.objs.size (s.heap.push dqE) h' → Q (.ref s.heap.objs.size) { s with heap := h' }) :
    wpAny (model prog w) A (call (.type "collections.deque") []) Q E s := by
  refine callType_codes (Q₁ := fun obj s₁ => obj = .ref s.heap.objs.size ∧ s₁ = { s with heap := s.heap.push dqE }) called_dq typeCall_dq entry_dq_init
    (code_dq_new ⟨rfl, rfl⟩) fun obj s₁ h₁ => ?_
  obtain ⟨rfl, rfl⟩ := h₁
  have hS : (s.heap.push dqE).get? s.heap.objs.size = some dqE := Heap.get?_push_size _ rfl
  refine ⟨⟨_, hS, rfl⟩, args_dq_init _, ?_⟩
  show wpAny _ _ (setField (.ref s.heap.objs.size) 0 .none >>= fun _ => Builtin.Deque.clear (.ref s.heap.objs.size) >>= fun _ => ret .none) _ _ _
  refine wpAny_bind (wpAny_setField hS rfl (by decide) ?_)
  have hg : ((s.heap.push dqE).update s.heap.objs.size (Obj.mapFields (·.setIfInBounds 0 .none))).get? s.heap.objs.size = some dqE := by
    rw [Heap.get?_update_self _ hS rfl]; rfl
  have hs := Heap.SameBut.update (s.heap.push dqE) s.heap.objs.size (Obj.mapFields (·.setIfInBounds 0 .none))
  unfold Builtin.Deque.clear Builtin.Deque.items
  refine wpAny_bind (wpAny_bind (wpAny_bind (wpAny_fieldsOf hg rfl (wpAny_pure ?_))))
  exact wpAny_pure (wpAny_pure ⟨rfl, h _ hg hs⟩)
end
end Mine
end
section
open Lean Meta Elab PySem PySem.W PyProof.Rows
set_option maxRecDepth 100000
set_option maxHeartbeats 0
set_option Elab.async false
set_option linter.unusedVariables false
namespace Mine
theorem fillO : (fun (_ : Params → Frag) (_ : OpenLaw) => True) K rw1 := by k_fill; trivial
theorem kw21 : True := by
  k_with_none
  k_with "c_enter" => (refine' code_def ?k1 ?k2 ?k3 ?k4 ?k5 ?kA ?kF ?kK ?k6 ?k7 ?zk8 ?zk9 ?kB ?_ ?c2 ?c3 ?c4 ?c5; (case kA => exact rfl); (case kF => exact rfl); (case kK => assumption); (case k1 => k_asm); (case k2 => k_asm); (case k3 => k_asm); (case k4 => k_asm); (case k5 => k_asm); (case k6 => k_is); (case k7 => k_is); (case zk8 => ktr_room); (case zk9 => first | exact BindsTo.of_eq rfl | exact binds_K (by k_in) rfl (by k_is) rfl rfl rfl | fail "c_enter: the arguments"); (case c5 => decide); (case kB => exact locs rfl); (case c2 => exact rfl); (case c3 => exact rfl); (case c4 => exact rfl); k_whole; intro zg' zL' zh' zFG' zF' zN' zB' zX' zT'; (try dsimp only); (try k_fold))
  k_with "compareOp In str str" => (k_here; (first | with_reducible refine in_ch (by with_reducible assumption) ?_ | with_reducible refine in_nil ?_ | with_reducible refine in_b (b := false) (by decide +kernel) ?_ | with_reducible refine in_b (b := true) (by decide +kernel) ?_))
  k_with "compareOp NotIn str str" => (k_here; (first | with_reducible refine notin_ch (by with_reducible assumption) ?_ | with_reducible refine notin_nil ?_))
  k_with "compareOp Eq str str" => (k_here; (first | with_reducible refine eq_b (by with_reducible assumption) ?_ | with_reducible refine eq_b (b := false) (by decide +kernel) ?_ | with_reducible refine eq_b (b := true) (by decide +kernel) ?_))
  k_with "truthy str" => (k_here; (first | with_reducible refine truthy_ch ?_ | with_reducible refine truthy_nil ?_ | with_reducible refine truthy_p (by with_reducible assumption) (by with_reducible assumption) ?_); intro zk9)
  trivial
abbrev tk5 (a b c d e : Tok) : Nat → Tok := fun k => match k with | 0 => a | 1 => b | 2 => c | 3 => d | _ => e
theorem kw22 : True := by
  k_with "execs" => (k_here; first | unfold fStringIO___init___b | unfold fStringIO___translated_b)
  trivial
section
variable {w : World} {mean : ExcName → Option Value} {mg mb : Str → Option Value} {dp un : Nat} {gd : Option (List Code)} {cn : Str} {cs : Scope} {a : Addr} {ccd : Value} {cl : List (Str × Addr)} {outer : List Env} {A₀ : Around} {base h₀ : Heap} {L : Addr} {m : Str → Option Value} {news : List (Addr × Obj)} {s : Shared} {Q E : Value → Shared → Prop} {x : Str} {t : Tok} {io dio : Nat}
theorem sinit_c
    (B : Below A₀ base outer h₀) (F : Fr h₀ L s.heap m) (X : (K w.params).In h₀) (N : News h₀ L s.heap ((io, instObj 603 dio) :: (dio, emptyDict) :: news)) (T : Top q loose mean mg mb h₀) (hk : cs.kind = .function)
    (hne : ∀ p ∈ news, p.1 ≠ dio) (hio : dio < io)
    (hd : dp + 2 < recursionLimit) (hu : un + 20 < cLine)
    (hret : ∀ (σ : Nat → Tok) u h' tk', Fr h₀ L h' m → News h₀ L h' ((io, instObj 603 dio) :: (dio, dictOf (ioE w.params x σ 0 u) 3) :: news) → Q .none { s with heap := h', toks := tk' }) :
    wpAny (model pw w) (ktrTop dp un gd cn cs L a ccd cl outer) (call (.ref 373) [.ref io, .str x t]) Q E s := by
  refine wpAny_call ?_
  k_dflt (walk_at "c_enter")
  k_steps
  all_goals exact hret (tk5 _ _ _ _ _) _ _ _ (by k_asm) (by k_asm)
theorem sio_c
    (B : Below A₀ base outer h₀) (F : Fr h₀ L s.heap m) (X : (K w.params).In h₀) (N : News h₀ L s.heap news) (T : Top q loose mean mg mb h₀) (hk : cs.kind = .function)
    (hd : dp + 3 < recursionLimit) (hu : un + 24 < cLine)
    (hret : ∀ (io dio : Nat) (σ : Nat → Tok) u h' tk', dio < io → (∀ p ∈ news, p.1 < dio) → Fr h₀ L h' m → News h₀ L h' ((io, instObj 603 dio) :: (dio, dictOf (ioE w.params x σ 0 u) 3) :: news) → Q (.ref io) { s with heap := h', toks := tk' }) :
    wpAny (model pw w) (ktrTop dp un gd cn cs L a ccd cl outer) (call (.ref 603) [.str x t]) Q E s := by
  refine make587 B F X N T hk (by omega) (by omega) ?_
  intro io dio h1 tk1 l1 l2 F1 N1
  refine sinit_c (dp := dp + 1) (un := un + 1) (s := { s with heap := h1, toks := tk1 }) B F1 X N1 T hk (fun p hp => Nat.ne_of_lt (l2 p hp)) l1 (by omega) (by omega) ?_
  intro σ u h' tk' F2 N2
  exact ⟨rfl, hret io dio σ u h' tk' l1 l2 F2 N2⟩
end
end Mine
end
section
open Lean Meta Elab PySem PySem.W PyProof.Rows
set_option maxRecDepth 100000
set_option maxHeartbeats 0
set_option Elab.async false
set_option linter.unusedVariables false
namespace Mine
theorem fillP : (fun (_ : Params → Frag) (_ : OpenLaw) => True) K rw1 := by k_fill; trivial
theorem kw23 : True := by
  k_with_none
  k_with "c_enter" => (refine' code_def ?k1 ?k2 ?k3 ?k4 ?k5 ?kA ?kF ?kK ?k6 ?k7 ?zk8 ?zk9 ?kB ?_ ?c2 ?c3 ?c4 ?c5; (case kA => exact rfl); (case kF => exact rfl); (case kK => assumption); (case k1 => k_asm); (case k2 => k_asm); (case k3 => k_asm); (case k4 => k_asm); (case k5 => k_asm); (case k6 => k_is); (case k7 => k_is); (case zk8 => ktr_room); (case zk9 => first | exact BindsTo.of_eq rfl | exact binds_K (by k_in) rfl (by k_is) rfl rfl rfl | fail "c_enter: the arguments"); (case c5 => decide); (case kB => exact locs rfl); (case c2 => exact rfl); (case c3 => exact rfl); (case c4 => exact rfl); k_whole; intro zg' zL' zh' zFG' zF' zN' zB' zX' zT'; (try dsimp only); (try k_fold))
  k_with "compareOp In str str" => (k_here; (first | with_reducible refine in_ch (by with_reducible assumption) ?_ | with_reducible refine in_nil ?_ | with_reducible refine in_b (b := false) (by decide +kernel) ?_ | with_reducible refine in_b (b := true) (by decide +kernel) ?_))
  k_with "compareOp NotIn str str" => (k_here; (first | with_reducible refine notin_ch (by with_reducible assumption) ?_ | with_reducible refine notin_nil ?_))
  k_with "compareOp Eq str str" => (k_here; (first | with_reducible refine eq_b (by with_reducible assumption) ?_ | with_reducible refine eq_b (b := false) (by decide +kernel) ?_ | with_reducible refine eq_b (b := true) (by decide +kernel) ?_))
  k_with "truthy str" => (k_here; (first | with_reducible refine truthy_ch ?_ | with_reducible refine truthy_nil ?_ | with_reducible refine truthy_p (by with_reducible assumption) (by with_reducible assumption) ?_); intro zk9)
  trivial
abbrev lexG (P : Params) (W cm : Str) (ws : Bool) (τ : Nat → Tok) (io pb fs : Nat) (stv : Value) (ln : Int) (tl : Tok) (tok : Str) (tt : Tok) : List DictEntry :=
  [⟨PyData.keyHash P "instream", .str "instream" (τ 0), .ref io⟩, ⟨PyData.keyHash P "infile", .str "infile" (τ 1), .none⟩, ⟨PyData.keyHash P "posix", .str "posix" (τ 2), .bool true⟩, ⟨PyData.keyHash P "eof", .str "eof" (τ 3), .none⟩,
   ⟨PyData.keyHash P "commenters", .str "commenters" (τ 4), .str cm (τ 24)⟩, ⟨PyData.keyHash P "wordchars", .str "wordchars" (τ 5), .str W (τ 25)⟩, ⟨PyData.keyHash P "whitespace", .str "whitespace" (τ 6), .str " \t\r\n" (τ 26)⟩,
   ⟨PyData.keyHash P "whitespace_split", .str "whitespace_split" (τ 7), .bool ws⟩, ⟨PyData.keyHash P "quotes", .str "quotes" (τ 8), .str "'\"" (τ 28)⟩, ⟨PyData.keyHash P "escape", .str "escape" (τ 9), .str "\\" (τ 29)⟩,
   ⟨PyData.keyHash P "escapedquotes", .str "escapedquotes" (τ 10), .str "\"" (τ 30)⟩, ⟨PyData.keyHash P "state", .str "state" (τ 11), stv⟩, ⟨PyData.keyHash P "pushback", .str "pushback" (τ 12), .ref pb⟩, ⟨PyData.keyHash P "lineno", .str "lineno" (τ 13), .int ln tl⟩,
   ⟨PyData.keyHash P "debug", .str "debug" (τ 14), .int 0 (τ 34)⟩, ⟨PyData.keyHash P "token", .str "token" (τ 15), .str tok tt⟩, ⟨PyData.keyHash P "filestack", .str "filestack" (τ 16), .ref fs⟩, ⟨PyData.keyHash P "source", .str "source" (τ 17), .none⟩,
   ⟨PyData.keyHash P "_punctuation_chars", .str "_punctuation_chars" (τ 18), .str "" (τ 38)⟩]
abbrev tkL (l : List Tok) : Nat → Tok := fun k => l.getD k 0
abbrev wd1 : Str := "abcdfeghijklmnopqrstuvwxyzABCDEFGHIJKLMNOPQRSTUVWXYZ0123456789_"
abbrev wd2 : Str := "ßàáâãäåæçèéêëìíîïðñòóôõöøùúûüýþÿÀÁÂÃÄÅÆÇÈÉÊËÌÍÎÏÐÑÒÓÔÕÖØÙÚÛÜÝÞ"
theorem dqN {w : World} {A : Around} {s : Shared} {h₀ : Heap} {L : Addr} {m : Str → Option Value} {news : List (Addr × Obj)} {Q E : Value → Shared → Prop} (F : Fr h₀ L s.heap m) (N : News h₀ L s.heap news)
    (h : ∀ (d : Nat) h', Fr h₀ L h' m → News h₀ L h' ((d, dqE) :: news) → (∀ p ∈ news, p.1 < d) → Q (.ref d) { s with heap := h' }) :
    wpAny (model pw w) A (call (.type "collections.deque") []) Q E s :=
  call_dq fun h' hg hs => h _ h' (F.filled hs) (News.filled F N hs hg) fun p hp => Heap.lt_size (N p hp).1
theorem kw24 : True := by
  k_with "call type:collections.deque" => (k_here; k_dflt (refine' dqN ?rF ?rN ?_; (case rF => k_asm); (case rN => k_asm); k_whole); intro zd9 zh9 zF9 zN9 zl9; (try k_lt zl9); (try dsimp only))
  k_with "call ref" => (k_here; k_dflt (refine' sio_c ?rB ?rF ?rX ?rN ?rT ?rK ?rd ?ru ?_; (case rB => k_asm); (case rF => k_asm); (case rX => k_asm); (case rN => k_asm); (case rT => k_asm); (case rK => first | exact rfl | assumption); (case rd => ktr_room); (case ru => ktr_units); k_whole); intro zio9 zdio9 zs9 zu9 zh9 ztk9 zl9 zl8 zF9 zN9; have l7 := low2 zl8; (try k_lt zl8); (try dsimp only))
  trivial
section
variable {w : World} {mean : ExcName → Option Value} {mg mb : Str → Option Value} {dp un : Nat} {gd : Option (List Code)} {cn : Str} {cs : Scope} {a : Addr} {ccd : Value} {cl : List (Str × Addr)} {outer : List Env} {A₀ : Around} {base h₀ : Heap} {L : Addr} {m : Str → Option Value} {news : List (Addr × Obj)} {s : Shared} {R : Result → Shared → Prop} {x : Str} {t : Tok} {lex dlex : Nat}
theorem linit_c
    (B : Below A₀ base outer h₀) (F : Fr h₀ L s.heap m) (X : (K w.params).In h₀) (N : News h₀ L s.heap ((lex, instObj 738 dlex) :: (dlex, emptyDict) :: news)) (T : Top q loose mean mg mb h₀) (hk : cs.kind = .function)
    (hne : ∀ p ∈ news, p.1 ≠ dlex) (hio : dlex < lex)
    (hd : dp + 5 < recursionLimit) (hu : un + 40 < cLine)
    (hret : ∀ (io dio pb fs : Nat) (σ τ : Nat → Tok) u ts tl tt h' tk', lex < dio → dio < io → io < pb → pb < fs → (∀ p ∈ news, p.1 < dio) → Fr h₀ L h' m →
      News h₀ L h' ((fs, dqE) :: (pb, dqE) :: (io, instObj 603 dio) :: (dio, dictOf (ioE w.params x σ 0 u) 3) :: (lex, instObj 738 dlex) :: (dlex, dictOf (lexG w.params (wd1 ++ wd2) "#" false τ io pb fs (.str " " ts) 1 tl "" tt) 19) :: news) → R (.ok (.ret .none)) { s with heap := h', toks := tk' }) :
    codeAny (model pw w) (ktrTop dp un gd cn cs L a ccd cl outer) (.call (.ref 662) ⟨[.ref lex, .str x t], [("posix", .bool true)]⟩) R s := by
  k_dflt (walk_at "c_enter")
  k_steps
  all_goals (refine' hret _ _ _ _ _ (tkL [_, _, _, _, _, _, _, _, _, _, _, _, _, _, _, _, _, _, _, 0, 0, 0, 0, 0, _, _, _, 0, _, _, _, 0, 0, 0, _, 0, 0, 0, _])  _ _ _ _ _ _ ?a1 ?a2 ?a3 ?a4 ?a5 ?a6 ?a7; (case a7 => k_asm); (case a6 => k_asm); (case a1 => omega); (case a2 => omega); (case a3 => omega); (case a4 => omega); (case a5 => first | assumption | exact low2 (by assumption) | trace_state))
end
end Mine
end
section
open Lean Meta Elab PySem PySem.W PyProof.Rows
set_option maxRecDepth 100000
set_option maxHeartbeats 0
set_option Elab.async false
set_option linter.unusedVariables false
namespace Mine
/-- the words of a text, read from the left: at a place (0, 39 or 34 open) with a word begun or none -/
def Wr : List Nat → Nat → Option (List Nat) → Option (List (List Nat))
  | [], 0, none => some []
  | [], 0, some w => some [w]
  | [], _ + 1, _ => none
  | c :: r, 0, none => if isWs c then Wr r 0 none else if isQt c then Wr r c (some []) else Wr r 0 (some [c])
  | c :: r, 0, some w => if isWs c then (Wr r 0 none).map (w :: ·) else if isQt c then Wr r c (some w) else Wr r 0 (some (w ++ [c]))
  | c :: r, d + 1, w => if c == d + 1 then Wr r 0 (some (w.getD [])) else Wr r (d + 1) (some (w.getD [] ++ [c]))
theorem lr_wd (c : Nat) (r tok : List Nat) (qd : Bool) : lexRun (c :: r) .wd tok qd = if isWs c then .fin tok qd .sp r else if isQt c then lexRun r (.q c) tok qd else lexRun r .wd (tok ++ [c]) qd := rfl
theorem lr_sp (c : Nat) (r tok : List Nat) (qd : Bool) : lexRun (c :: r) .sp tok qd = if isWs c then lexRun r .sp tok qd else if isQt c then lexRun r (.q c) tok qd else lexRun r .wd [c] qd := rfl
theorem lr_q (c d : Nat) (r tok : List Nat) (qd : Bool) : lexRun (c :: r) (.q d) tok qd = if c == d then lexRun r .wd tok true else lexRun r (.q d) (tok ++ [c]) true := rfl
theorem wr_n (c : Nat) (r : List Nat) : Wr (c :: r) 0 none = if isWs c then Wr r 0 none else if isQt c then Wr r c (some []) else Wr r 0 (some [c]) := rfl
theorem wr_s (c : Nat) (r w : List Nat) : Wr (c :: r) 0 (some w) = if isWs c then (Wr r 0 none).map (w :: ·) else if isQt c then Wr r c (some w) else Wr r 0 (some (w ++ [c])) := rfl
theorem wr_q (c d : Nat) (r w : List Nat) : Wr (c :: r) (d + 1) (some w) = if c == d + 1 then Wr r 0 (some w) else Wr r (d + 1) (some (w ++ [c])) := rfl
theorem qt_pos {d : Nat} (h : isQt d = true) : ∃ e, d = e + 1 := by
  rcases qt_cases h with rfl | rfl <;> exact ⟨_, rfl⟩
theorem run_wd : ∀ (post : List Nat) (tok : List Nat) (qd : Bool), (tok ≠ [] ∨ qd = true) →
    ((lexRun post .wd tok qd = .err ∧ Wr post 0 (some tok) = none) ∨ ∃ tok' qd' st' post', lexRun post .wd tok qd = .fin tok' qd' st' post' ∧ (tok' ≠ [] ∨ qd' = true) ∧ (st' = .sp ∨ st' = .dead ∧ post' = []) ∧ post'.length ≤ post.length ∧ Wr post 0 (some tok) = (Wr post' 0 none).map (tok' :: ·)) ∧
    ∀ d, isQt d = true → ((lexRun post (.q d) tok qd = .err ∧ Wr post d (some tok) = none) ∨ ∃ tok' qd' st' post', lexRun post (.q d) tok qd = .fin tok' qd' st' post' ∧ (tok' ≠ [] ∨ qd' = true) ∧ (st' = .sp ∨ st' = .dead ∧ post' = []) ∧ post'.length ≤ post.length ∧ Wr post d (some tok) = (Wr post' 0 none).map (tok' :: ·)) := by
  have : ∀ (n : Nat) (post : List Nat), post.length = n → ∀ (tok : List Nat) (qd : Bool),
    ((tok ≠ [] ∨ qd = true) → ((lexRun post .wd tok qd = .err ∧ Wr post 0 (some tok) = none) ∨ ∃ tok' qd' st' post', lexRun post .wd tok qd = .fin tok' qd' st' post' ∧ (tok' ≠ [] ∨ qd' = true) ∧ (st' = .sp ∨ st' = .dead ∧ post' = []) ∧ post'.length ≤ post.length ∧ Wr post 0 (some tok) = (Wr post' 0 none).map (tok' :: ·))) ∧
    ∀ d, isQt d = true → ((lexRun post (.q d) tok qd = .err ∧ Wr post d (some tok) = none) ∨ ∃ tok' qd' st' post', lexRun post (.q d) tok qd = .fin tok' qd' st' post' ∧ (tok' ≠ [] ∨ qd' = true) ∧ (st' = .sp ∨ st' = .dead ∧ post' = []) ∧ post'.length ≤ post.length ∧ Wr post d (some tok) = (Wr post' 0 none).map (tok' :: ·)) := by
    intro n
    induction n with
    | zero =>
      intro post hp tok qd
      obtain rfl := List.length_eq_zero_iff.mp hp
      refine ⟨fun h => .inr ⟨tok, qd, .dead, [], rfl, h, .inr ⟨rfl, rfl⟩, Nat.le_refl _, rfl⟩, fun d hd => .inl ⟨rfl, ?_⟩⟩
      obtain ⟨e, rfl⟩ := qt_pos hd
      rfl
    | succ n ih =>
      intro post hp tok qd
      cases post with
      | nil => cases hp
      | cons c r =>
        have hr : r.length = n := by simpa using hp
        refine ⟨fun h => ?_, fun d hd => ?_⟩
        · show (lexRun (c :: r) .wd tok qd = .err ∧ _) ∨ _
          rw [lr_wd, wr_s]
          by_cases h1 : isWs c = true
          · rw [if_pos h1, if_pos h1]
            exact .inr ⟨tok, qd, .sp, r, rfl, h, .inl rfl, by simp, rfl⟩
          · rw [if_neg h1, if_neg h1]
            by_cases h2 : isQt c = true
            · rw [if_pos h2, if_pos h2]
              rcases (ih r hr tok qd).2 c h2 with x | ⟨a, b, e, f, x1, x2, x3, x4, x5⟩
              · exact .inl x
              · exact .inr ⟨a, b, e, f, x1, x2, x3, by simp; omega, x5⟩
            · rw [if_neg h2, if_neg h2]
              rcases (ih r hr (tok ++ [c]) qd).1 (.inl (by simp)) with x | ⟨a, b, e, f, x1, x2, x3, x4, x5⟩
              · exact .inl x
              · exact .inr ⟨a, b, e, f, x1, x2, x3, by simp; omega, x5⟩
        · obtain ⟨e, rfl⟩ := qt_pos hd
          show (lexRun (c :: r) (.q (e + 1)) tok qd = .err ∧ _) ∨ _
          rw [lr_q, wr_q]
          by_cases h1 : (c == e + 1) = true
          · rw [if_pos h1, if_pos h1]
            rcases (ih r hr tok true).1 (.inr rfl) with x | ⟨a, b, e', f, x1, x2, x3, x4, x5⟩
            · exact .inl x
            · exact .inr ⟨a, b, e', f, x1, x2, x3, by simp; omega, x5⟩
          · rw [if_neg h1, if_neg h1]
            rcases (ih r hr (tok ++ [c]) true).2 (e + 1) hd with x | ⟨a, b, e', f, x1, x2, x3, x4, x5⟩
            · exact .inl x
            · exact .inr ⟨a, b, e', f, x1, x2, x3, by simp; omega, x5⟩
  intro post tok qd h
  exact ⟨(this _ post rfl tok qd).1 h, (this _ post rfl tok qd).2⟩
theorem run_q (post : List Nat) (tok : List Nat) (qd : Bool) (d : Nat) (hd : isQt d = true) : (lexRun post (.q d) tok qd = .err ∧ Wr post d (some tok) = none) ∨ ∃ tok' qd' st' post', lexRun post (.q d) tok qd = .fin tok' qd' st' post' ∧ (tok' ≠ [] ∨ qd' = true) ∧ (st' = .sp ∨ st' = .dead ∧ post' = []) ∧ post'.length ≤ post.length ∧ Wr post d (some tok) = (Wr post' 0 none).map (tok' :: ·) := by
  obtain ⟨e, rfl⟩ := qt_pos hd
  cases post with
  | nil => exact .inl ⟨rfl, rfl⟩
  | cons c r =>
    show (lexRun (c :: r) (.q (e + 1)) tok qd = .err ∧ _) ∨ _
    rw [lr_q, wr_q]
    by_cases h1 : (c == e + 1) = true
    · rw [if_pos h1, if_pos h1]
      rcases (run_wd r tok true (.inr rfl)).1 with x | ⟨a, b, e', f, x1, x2, x3, x4, x5⟩
      · exact .inl x
      · exact .inr ⟨a, b, e', f, x1, x2, x3, by simp; omega, x5⟩
    · rw [if_neg h1, if_neg h1]
      rcases (run_wd r (tok ++ [c]) true (.inr rfl)).2 (e + 1) hd with x | ⟨a, b, e', f, x1, x2, x3, x4, x5⟩
      · exact .inl x
      · exact .inr ⟨a, b, e', f, x1, x2, x3, by simp; omega, x5⟩
theorem run_sp : ∀ (post : List Nat), (lexRun post .sp [] false = .err ∧ Wr post 0 none = none) ∨ (lexRun post .sp [] false = .fin [] false .dead [] ∧ Wr post 0 none = some []) ∨
    ∃ tok' qd' st' post', lexRun post .sp [] false = .fin tok' qd' st' post' ∧ (tok' ≠ [] ∨ qd' = true) ∧ (st' = .sp ∨ st' = .dead ∧ post' = []) ∧ post'.length < post.length ∧ Wr post 0 none = (Wr post' 0 none).map (tok' :: ·) := by
  intro post
  induction post with
  | nil => exact .inr (.inl ⟨rfl, rfl⟩)
  | cons c r ih =>
    show (lexRun (c :: r) .sp [] false = .err ∧ _) ∨ _
    rw [lr_sp, wr_n]
    by_cases h1 : isWs c = true
    · rw [if_pos h1, if_pos h1]
      rcases ih with x | x | ⟨a, b, e', f, x1, x2, x3, x4, x5⟩
      · exact .inl x
      · exact .inr (.inl x)
      · exact .inr (.inr ⟨a, b, e', f, x1, x2, x3, by simp; omega, x5⟩)
    · rw [if_neg h1, if_neg h1]
      by_cases h2 : isQt c = true
      · rw [if_pos h2, if_pos h2]
        rcases run_q r [] false c h2 with x | ⟨a, b, e', f, x1, x2, x3, x4, x5⟩
        · exact .inl x
        · exact .inr (.inr ⟨a, b, e', f, x1, x2, x3, by simp; omega, x5⟩)
      · rw [if_neg h2, if_neg h2]
        rcases (run_wd r [c] false (.inl (by simp))).1 with x | ⟨a, b, e', f, x1, x2, x3, x4, x5⟩
        · exact .inl x
        · exact .inr (.inr ⟨a, b, e', f, x1, x2, x3, by simp; omega, x5⟩)
theorem lexes_wr : ∀ (n : Nat) (post : List Nat), post.length ≤ n → ∀ st, (st = .sp ∨ st = .dead ∧ post = []) → Lexes post st (Wr post 0 none) := by
  intro n
  induction n with
  | zero =>
    intro post hp st hst
    obtain rfl := List.length_eq_zero_iff.mp (Nat.le_zero.mp hp)
    rcases hst with rfl | ⟨rfl, _⟩
    · exact .stop (st' := .dead) (post' := []) rfl
    · exact .stop (st' := .dead) (post' := []) rfl
  | succ n ih =>
    intro post hp st hst
    rcases hst with rfl | ⟨rfl, rfl⟩
    · rcases run_sp post with ⟨x, y⟩ | ⟨x, y⟩ | ⟨a, b, e, f, x1, x2, x3, x4, x5⟩
      · rw [y]; exact .err x
      · rw [y]; exact .stop x
      · rw [x5]; exact .word x1 x2 (ih f (by omega) e x3)
    · exact .stop (st' := .dead) (post' := []) rfl
/-- the place behind a sign, as the law tells it: 0 nothing open, 1 an apostrophe, 2 a double mark -/
def opn (p c : Nat) : Nat := if c = 39 ∧ p < 2 then 1 - p else if c = 34 ∧ p ≠ 1 then 2 - p else p
def opens (t : List Nat) (p : Nat) : Nat := t.foldl opn p
inductive Cl where
  | sep | keep (c : Nat) | drop
def cls (p c : Nat) : Cl := if p = 0 ∧ isWs c = true then .sep else if opn p c = p then .keep c else .drop
def ann : List Nat → Nat → List Cl
  | [], _ => []
  | c :: r, p => cls p c :: ann r (opn p c)
/-- words from the right: the word begun at the left end, the others -/
def addL (x : Cl) (s : Option (List Nat) × List (List Nat)) : Option (List Nat) × List (List Nat) := match x with
  | .sep => (none, s.1.toList ++ s.2)
  | .keep c => (some (c :: s.1.getD []), s.2)
  | .drop => (some (s.1.getD []), s.2)
def gR (l : List Cl) : Option (List Nat) × List (List Nat) := l.foldr addL (none, [])
/-- words from the left -/
def addR (s : List (List Nat) × Option (List Nat)) (x : Cl) : List (List Nat) × Option (List Nat) := match x with
  | .sep => (s.1 ++ s.2.toList, none)
  | .keep c => (s.1, some (s.2.getD [] ++ [c]))
  | .drop => (s.1, some (s.2.getD []))
def gL (s : List (List Nat) × Option (List Nat)) (l : List Cl) : List (List Nat) × Option (List Nat) := l.foldl addR s
def wdsL (s : List (List Nat) × Option (List Nat)) : List (List Nat) := s.1 ++ s.2.toList
def jn (cur : Option (List Nat)) (s : Option (List Nat) × List (List Nat)) : List (List Nat) := match cur, s.1 with
  | none, x => x.toList ++ s.2
  | some w, none => w :: s.2
  | some w, some v => (w ++ v) :: s.2
theorem gL_gR : ∀ (l : List Cl) (ws : List (List Nat)) (cur : Option (List Nat)), wdsL (gL (ws, cur) l) = ws ++ jn cur (gR l) := by
  intro l
  induction l with
  | nil => intro ws cur; cases cur <;> rfl
  | cons x r ih =>
    intro ws cur
    show wdsL (gL (addR (ws, cur) x) r) = ws ++ jn cur (addL x (gR r))
    generalize gR r = s at ih ⊢
    obtain ⟨o, v⟩ := s
    cases x with
    | sep => rw [show addR (ws, cur) .sep = (ws ++ cur.toList, none) from rfl, ih]; cases cur <;> cases o <;> simp [jn, addL]
    | keep c => rw [show addR (ws, cur) (.keep c) = (ws, some (cur.getD [] ++ [c])) from rfl, ih]; cases cur <;> cases o <;> simp [jn, addL]
    | drop => rw [show addR (ws, cur) .drop = (ws, some (cur.getD [])) from rfl, ih]; cases cur <;> cases o <;> simp [jn, addL]
def mir (ws : List (List Nat)) : List (List Nat) := (ws.map List.reverse).reverse
theorem gL_mir : ∀ (l : List Cl), gL ([], none) l.reverse = (mir (gR l).2, (gR l).1.map List.reverse) := by
  intro l
  induction l with
  | nil => rfl
  | cons x r ih =>
    have ih : List.foldl addR ([], none) r.reverse = _ := ih
    show List.foldl addR ([], none) (x :: r).reverse = (mir (addL x (gR r)).2, (addL x (gR r)).1.map List.reverse)
    rw [List.reverse_cons, List.foldl_append, ih]
    generalize gR r = s
    obtain ⟨o, v⟩ := s
    cases x <;> cases o <;> simp [mir, addL, addR]
theorem words_mir (l : List Cl) : wdsL (gL ([], none) l.reverse) = mir (wdsL (gL ([], none) l)) := by
  rw [gL_mir, gL_gR]
  generalize gR l = s
  obtain ⟨o, v⟩ := s
  cases o <;> simp [wdsL, jn, mir]
theorem opn_inv {p : Nat} (h : p ≤ 2) (c : Nat) : opn (opn p c) c = p ∧ opn p c ≤ 2 := by
  unfold opn
  have : p = 0 ∨ p = 1 ∨ p = 2 := by omega
  rcases this with rfl | rfl | rfl <;> by_cases h1 : c = 39 <;> by_cases h2 : c = 34 <;> simp_all
theorem opens_le : ∀ (t : List Nat) {p : Nat}, p ≤ 2 → opens t p ≤ 2
  | [], _, h => h
  | c :: r, _, h => opens_le r (opn_inv h c).2
theorem ws39 : isWs 39 = false := by decide +kernel
theorem ws34 : isWs 34 = false := by decide +kernel
theorem cls_inv {p : Nat} (h : p ≤ 2) (c : Nat) : cls (opn p c) c = cls p c := by
  unfold cls
  rw [(opn_inv h c).1]
  by_cases hc : isWs c = true
  · have h1 : c ≠ 39 := by rintro rfl; rw [ws39] at hc; cases hc
    have h2 : c ≠ 34 := by rintro rfl; rw [ws34] at hc; cases hc
    have e : opn p c = p := by unfold opn; simp [h1, h2]
    simp [e]
  · simp only [hc, and_false, Bool.false_eq_true, if_false]
    by_cases e : opn p c = p
    · simp [e]
    · simp [e, Ne.symm e]
theorem ann_app : ∀ (t u : List Nat) (p : Nat), ann (t ++ u) p = ann t p ++ ann u (opens t p)
  | [], _, _ => rfl
  | c :: r, u, p => by
    show cls p c :: ann (r ++ u) (opn p c) = _
    rw [ann_app r u]
    rfl
theorem opens_app (t u : List Nat) (p : Nat) : opens (t ++ u) p = opens u (opens t p) := List.foldl_append ..
theorem rev_inv : ∀ (t : List Nat) {p : Nat}, p ≤ 2 → opens t.reverse (opens t p) = p ∧ ann t.reverse (opens t p) = (ann t p).reverse
  | [], _, _ => ⟨rfl, rfl⟩
  | c :: r, p, h => by
    obtain ⟨h1, h2⟩ := rev_inv r (opn_inv h c).2
    have e : opens (c :: r) p = opens r (opn p c) := rfl
    rw [List.reverse_cons, opens_app, ann_app, e, h1, h2]
    refine ⟨(opn_inv h c).1, ?_⟩
    show _ ++ [cls (opn p c) c] = (cls p c :: ann r (opn p c)).reverse
    rw [cls_inv h, List.reverse_cons]
def pl : Nat → Nat
  | 0 => 0
  | 1 => 39
  | _ => 34
theorem qt39 : isQt 39 = true := by decide +kernel
theorem qt34 : isQt 34 = true := by decide +kernel
theorem wr_gR : ∀ (t : List Nat) (p : Nat) (cur : Option (List Nat)), p ≤ 2 → (p ≠ 0 → cur.isSome = true) → Wr t (pl p) cur = if opens t p = 0 then some (jn cur (gR (ann t p))) else none := by
  intro t
  induction t with
  | nil =>
    intro p cur h hc
    have : p = 0 ∨ p = 1 ∨ p = 2 := by omega
    rcases this with rfl | rfl | rfl
    · cases cur <;> rfl
    · rfl
    · rfl
  | cons c r ih =>
    intro p cur h hc
    have eo : opens (c :: r) p = opens r (opn p c) := rfl
    have ea : gR (ann (c :: r) p) = addL (cls p c) (gR (ann r (opn p c))) := rfl
    rw [eo, ea]
    have hp : p = 0 ∨ p = 1 ∨ p = 2 := by omega
    by_cases hw : isWs c = true
    · have h1 : c ≠ 39 := by rintro rfl; rw [ws39] at hw; cases hw
      have h2 : c ≠ 34 := by rintro rfl; rw [ws34] at hw; cases hw
      have e : opn p c = p := by unfold opn; simp [h1, h2]
      rw [e]
      rcases hp with rfl | rfl | rfl
      · have ec : cls 0 c = .sep := by unfold cls; simp [hw]
        rw [ec]
        have := ih 0 none (by omega) (by simp)
        cases cur with
        | none =>
          rw [show pl 0 = 0 from rfl, wr_n, if_pos hw]
          rw [show pl 0 = 0 from rfl] at this
          rw [this]
          generalize gR (ann r 0) = s
          obtain ⟨o, v⟩ := s
          cases o <;> simp [jn, addL]
        | some w =>
          rw [show pl 0 = 0 from rfl, wr_s, if_pos hw]
          rw [show pl 0 = 0 from rfl] at this
          rw [this]
          generalize gR (ann r 0) = s
          obtain ⟨o, v⟩ := s
          split <;> cases o <;> simp [jn, addL]
      · have ec : cls 1 c = .keep c := by unfold cls; simp [e]
        rw [ec]
        cases cur with
        | none => exact absurd (hc (by decide)) (by simp)
        | some w =>
          have := ih 1 (some (w ++ [c])) (by omega) (by simp)
          rw [show pl 1 = 38 + 1 from rfl, wr_q, if_neg (by simpa using h1)]
          rw [show pl 1 = 38 + 1 from rfl] at this
          rw [this]
          generalize gR (ann r 1) = s
          obtain ⟨o, v⟩ := s
          cases o <;> simp [jn, addL]
      · have ec : cls 2 c = .keep c := by unfold cls; simp [e]
        rw [ec]
        cases cur with
        | none => exact absurd (hc (by decide)) (by simp)
        | some w =>
          have := ih 2 (some (w ++ [c])) (by omega) (by simp)
          rw [show pl 2 = 33 + 1 from rfl, wr_q, if_neg (by simpa using h2)]
          rw [show pl 2 = 33 + 1 from rfl] at this
          rw [this]
          generalize gR (ann r 2) = s
          obtain ⟨o, v⟩ := s
          cases o <;> simp [jn, addL]
    · have key : ∀ (p' : Nat) (x : Cl) (cur' : Option (List Nat)), opn p c = p' → cls p c = x → p' ≤ 2 → cur'.isSome = true → Wr (c :: r) (pl p) cur = Wr r (pl p') cur' → (∀ s, jn cur' s = jn cur (addL x s)) →
          Wr (c :: r) (pl p) cur = if opens r (opn p c) = 0 then some (jn cur (addL (cls p c) (gR (ann r (opn p c))))) else none := by
        intro p' x cur' e1 e2 e3 e4 e5 e6
        rw [e5, ih p' cur' e3 (fun _ => e4), e1, e2, e6]
      have fin : ∀ (x : Cl) (w : List Nat), x ≠ .sep → (cur = none ∧ w = (match x with | .keep c => [c] | _ => []) ∨ ∃ v, cur = some v ∧ w = v ++ (match x with | .keep c => [c] | _ => [])) → ∀ s, jn (some w) s = jn cur (addL x s) := by
        intro x w hx hw s
        obtain ⟨o, v⟩ := s
        rcases hw with ⟨rfl, rfl⟩ | ⟨v', rfl, rfl⟩ <;> cases x <;> cases o <;> simp_all [jn, addL]
      have hcls : cls p c = if opn p c = p then .keep c else .drop := by unfold cls; simp [hw]
      by_cases h1 : c = 39
      · subst h1
        rcases hp with rfl | rfl | rfl
        · refine key 1 .drop (some (cur.getD [])) rfl rfl (by omega) rfl ?_ (fin _ _ (by simp) (by cases cur <;> simp))
          cases cur
          · show Wr _ 0 none = _; rw [wr_n, if_neg hw, if_pos qt39]; rfl
          · show Wr _ 0 (some _) = _; rw [wr_s, if_neg hw, if_pos qt39]; rfl
        · cases cur with
          | none => exact absurd (hc (by decide)) (by simp)
          | some w =>
            refine key 0 .drop (some w) rfl rfl (by omega) rfl ?_ (fin _ _ (by simp) (by simp))
            show Wr _ (38 + 1) (some _) = _; rw [wr_q, if_pos (by decide)]; rfl
        · cases cur with
          | none => exact absurd (hc (by decide)) (by simp)
          | some w =>
            refine key 2 (.keep 39) (some (w ++ [39])) rfl rfl (by omega) rfl ?_ (fin _ _ (by simp) (by simp))
            show Wr _ (33 + 1) (some _) = _; rw [wr_q, if_neg (by decide)]; rfl
      · by_cases h2 : c = 34
        · subst h2
          rcases hp with rfl | rfl | rfl
          · refine key 2 .drop (some (cur.getD [])) rfl rfl (by omega) rfl ?_ (fin _ _ (by simp) (by cases cur <;> simp))
            cases cur
            · show Wr _ 0 none = _; rw [wr_n, if_neg hw, if_pos qt34]; rfl
            · show Wr _ 0 (some _) = _; rw [wr_s, if_neg hw, if_pos qt34]; rfl
          · cases cur with
            | none => exact absurd (hc (by decide)) (by simp)
            | some w =>
              refine key 1 (.keep 34) (some (w ++ [34])) rfl rfl (by omega) rfl ?_ (fin _ _ (by simp) (by simp))
              show Wr _ (38 + 1) (some _) = _; rw [wr_q, if_neg (by decide)]; rfl
          · cases cur with
            | none => exact absurd (hc (by decide)) (by simp)
            | some w =>
              refine key 0 .drop (some w) rfl rfl (by omega) rfl ?_ (fin _ _ (by simp) (by simp))
              show Wr _ (33 + 1) (some _) = _; rw [wr_q, if_pos (by decide)]; rfl
        · have e : opn p c = p := by unfold opn; simp [h1, h2]
          have hq : ¬ isQt c = true := fun q => by rcases qt_cases q with q | q <;> contradiction
          rcases hp with rfl | rfl | rfl
          · refine key 0 (.keep c) (some (cur.getD [] ++ [c])) e (by rw [hcls, if_pos e]) (by omega) rfl ?_ (fin _ _ (by simp) (by cases cur <;> simp))
            cases cur
            · show Wr _ 0 none = _; rw [wr_n, if_neg hw, if_neg hq]; rfl
            · show Wr _ 0 (some _) = _; rw [wr_s, if_neg hw, if_neg hq]; rfl
          · cases cur with
            | none => exact absurd (hc (by decide)) (by simp)
            | some w =>
              refine key 1 (.keep c) (some (w ++ [c])) e (by rw [hcls, if_pos e]) (by omega) rfl ?_ (fin _ _ (by simp) (by simp))
              show Wr _ (38 + 1) (some _) = _; rw [wr_q, if_neg (by simpa using h1)]; rfl
          · cases cur with
            | none => exact absurd (hc (by decide)) (by simp)
            | some w =>
              refine key 2 (.keep c) (some (w ++ [c])) e (by rw [hcls, if_pos e]) (by omega) rfl ?_ (fin _ _ (by simp) (by simp))
              show Wr _ (33 + 1) (some _) = _; rw [wr_q, if_neg (by simpa using h2)]; rfl
/-- the words of a text as the law tells them -/
def wds (t : List Nat) : List (List Nat) := wdsL (gL ([], none) (ann t 0))
def reads (t : List Nat) : Option (List (List Nat)) := if opens t 0 = 0 then some (wds t) else none
theorem lexes_reads (t : List Nat) : Lexes t .sp (reads t) := by
  have := lexes_wr _ t (Nat.le_refl _) .sp (.inl rfl)
  rw [show (0 : Nat) = pl 0 from rfl, wr_gR t 0 none (by omega) (by simp)] at this
  unfold reads wds
  rw [gL_gR, List.nil_append]
  exact this
theorem reads_mir {t : List Nat} : reads t.reverse = (reads t).map mir := by
  unfold reads wds
  by_cases h : opens t 0 = 0
  · have := rev_inv t (p := 0) (by omega)
    rw [h] at this
    rw [if_pos h, if_pos this.1, this.2, words_mir]
    rfl
  · have hn : ¬ opens t.reverse 0 = 0 := by
      intro q
      have := rev_inv t.reverse (p := 0) (by omega)
      rw [q, List.reverse_reverse] at this
      exact h this.1
    rw [if_neg h, if_neg hn]
    rfl
def mk : Nat → List Nat
  | 0 => []
  | 1 => [39]
  | _ => [34]
end Mine
end
section
open Lean Meta Elab PySem PySem.W PyProof.Rows
namespace Mine
structure Gd (P : Params) (mean : ExcName → Option Value) (mg mb : Str → Option Value) (h : Heap) : Prop where
  x : (K P).In h
  t : Top q loose mean mg mb h
end Mine
end
section
open Lean Meta Elab PySem PySem.W PyProof.Rows
set_option maxRecDepth 100000
set_option maxHeartbeats 0
set_option Elab.async false
set_option linter.unusedVariables false
namespace Mine
theorem fillQ : (fun (_ : Params → Frag) (_ : OpenLaw) => True) K rw1 := by k_fill; trivial
theorem kw25 : True := by
  k_with_none
  k_with "c_enter" => (refine' code_def ?k1 ?k2 ?k3 ?k4 ?k5 ?kA ?kF ?kK ?k6 ?k7 ?zk8 ?zk9 ?kB ?_ ?c2 ?c3 ?c4 ?c5; (case kA => exact rfl); (case kF => exact rfl); (case kK => assumption); (case k1 => k_asm); (case k2 => k_asm); (case k3 => k_asm); (case k4 => k_asm); (case k5 => k_asm); (case k6 => k_is); (case k7 => k_is); (case zk8 => ktr_room); (case zk9 => first | exact BindsTo.of_eq rfl | exact binds_K (by k_in) rfl (by k_is) rfl rfl rfl | fail "c_enter: the arguments"); (case c5 => decide); (case kB => exact locs rfl); (case c2 => exact rfl); (case c3 => exact rfl); (case c4 => exact rfl); k_whole; intro zg' zL' zh' zFG' zF' zN' zB' zX' zT'; (try dsimp only); (try k_fold))
  k_with "compareOp In str str" => (k_here; (first | with_reducible refine in_ch (by with_reducible assumption) ?_ | with_reducible refine in_nil ?_ | with_reducible refine in_b (b := false) (by decide +kernel) ?_ | with_reducible refine in_b (b := true) (by decide +kernel) ?_))
  k_with "compareOp NotIn str str" => (k_here; (first | with_reducible refine notin_ch (by with_reducible assumption) ?_ | with_reducible refine notin_nil ?_))
  k_with "compareOp Eq str str" => (k_here; (first | with_reducible refine eq_b (by with_reducible assumption) ?_ | with_reducible refine eq_b (b := false) (by decide +kernel) ?_ | with_reducible refine eq_b (b := true) (by decide +kernel) ?_))
  k_with "truthy str" => (k_here; (first | with_reducible refine truthy_ch ?_ | with_reducible refine truthy_nil ?_ | with_reducible refine truthy_p (by with_reducible assumption) (by with_reducible assumption) ?_); intro zk9)
  k_with "s_enter" => (refine' code_defS ?k1 ?k2 ?k3 ?k4 ?k5 ?XB ?TB ?D ?T0 ?kA ?k6 ?k7 ?zk8 ?zk9 ?kB ?_ ?cK ?c2 ?c3 ?c4 ?c5; (case kA => exact rfl); (case k2 => k_asm); (case k1 => k_asm); (case XB => exact Gd.x (by assumption)); (case TB => exact Gd.t (by assumption)); (case D => assumption); (case T0 => exact KtsTurn.refl); (case k3 => k_asm); (case k4 => k_asm); (case k5 => k_asm); (case k6 => k_is); (case k7 => k_is); (case zk8 => ktr_room); (case zk9 => first | exact BindsTo.of_eq rfl | exact binds_K (by k_in) rfl (by k_is) rfl rfl rfl | fail "s_enter: the arguments"); (case kB => exact locs rfl); (case cK => first | exact rfl | assumption); (case c2 => exact rfl); (case c3 => exact rfl); (case c4 => exact rfl); (case c5 => decide); k_whole; intro zg' zL' zh' zFG' zF' zN' zB' zX' zT' zD'; (try dsimp only); (try k_fold))
  trivial
section
variable {w : World} {mean : ExcName → Option Value} {mg mb : Str → Option Value} {dp un : Nat} {gd : Option (List Code)} {cn : Str} {cs : Scope} {a : Addr} {ccd : Value} {cl : List (Str × Addr)} {outer : List Env} {A₀ : Around} {base h₀ : Heap} {L : Addr} {m : Str → Option Value} {news : List (Addr × Obj)} {s : Shared} {Q E : Value → Shared → Prop} {x : Str} {t : Tok}
theorem under722 : (ktrTop dp un gd cn cs L a ccd cl outer).under (.builtin "type.__call__" ⟨[.ref 738, .str x t], [("posix", .bool true)]⟩) = ktrTop (dp + 1) (un + 1) gd cn cs L a ccd cl outer := rfl
theorem mklex_c
    (B : Below A₀ base outer h₀) (F : Fr h₀ L s.heap m) (X : (K w.params).In h₀) (N : News h₀ L s.heap news) (T : Top q loose mean mg mb h₀) (hk : cs.kind = .function)
    (hd : dp + 7 < recursionLimit) (hu : un + 50 < cLine)
    (hret : ∀ (io dio pb fs lex dlex : Nat) (σ τ : Nat → Tok) u ts tl tt h' tk', dlex < lex → lex < dio → dio < io → io < pb → pb < fs → (∀ p ∈ news, p.1 < dlex) → Fr h₀ L h' m →
      News h₀ L h' ((fs, dqE) :: (pb, dqE) :: (io, instObj 603 dio) :: (dio, dictOf (ioE w.params x σ 0 u) 3) :: (lex, instObj 738 dlex) :: (dlex, dictOf (lexG w.params (wd1 ++ wd2) "#" false τ io pb fs (.str " " ts) 1 tl "" tt) 19) :: news) → Q (.ref lex) { s with heap := h', toks := tk' }) :
    wpAny (model pw w) (ktrTop dp un gd cn cs L a ccd cl outer) (call (.ref 738) [.str x t] [("posix", .bool true)]) Q E s := by
  refine call_cls (C := 738) (fI := 662) F X N (by k_is) (by k_is) (by k_is) ?_
  intro lex dlex h1 F1 N1 l1 l2
  rw [under722]
  refine linit_c (dp := dp + 1) (un := un + 1) (s := { s with heap := h1 }) B F1 X N1 T hk (fun p hp => Nat.ne_of_lt (l1 p hp)) l2 (by omega) (by omega) ?_
  intro io dio pb fs σ τ u ts tl tt h' tk' a1 a2 a3 a4 a5 F2 N2
  exact ⟨rfl, hret io dio pb fs lex dlex σ τ u ts tl tt h' tk' l2 a1 a2 a3 a4 l1 F2 N2⟩
end
abbrev updT (τ : Nat → Tok) (t : Tok) : Nat → Tok := fun k => match k with | 24 => t | k => τ k
theorem wd_qt : ∀ c, isQt c = true → (wd1 ++ wd2).cps.toList.contains c = false := by
  intro c h
  rcases qt_cases h with rfl | rfl <;> decide +kernel
section
variable {w : World} {mean : ExcName → Option Value} {mg mb : Str → Option Value} {dp un : Nat} {gd : Option (List Code)} {cn : Str} {cs : Scope} {a : Addr} {ccd : Value} {outer : List Env} {A₀ : Around} {base h₀ : Heap} {L : Addr} {m : Str → Option Value} {news : List (Addr × Obj)} {s : Shared} {Q E : Value → Shared → Prop} {x : Str} {t t' : Tok} {es : List DictEntry}
theorem list0_c {io dio pb fs lex dlex : Nat} {σ τ : Nat → Tok} {u ts tl tt : Tok}
    (B : Below A₀ base outer h₀) (F : Fr h₀ L s.heap m) (X : (K w.params).In h₀)
    (N : News h₀ L s.heap ((fs, dqE) :: (pb, dqE) :: (io, instObj 603 dio) :: (dio, dictOf (ioE w.params x σ 0 u) 3) :: (lex, instObj 738 dlex) :: (dlex, dictOf es 19) :: news)) (he : es = lexE w.params (wd1 ++ wd2) (updT τ t') io pb fs (.str " " ts) 1 tl "" tt) (T : Top q loose mean mg mb h₀) (hk : cs.kind = .function)
    (l1 : dlex < lex) (l2 : lex < dio) (l3 : dio < io) (l4 : io < pb) (l5 : pb < fs) (l6 : ∀ p ∈ news, p.1 < dlex)
    (hbs : ∀ c ∈ x.cps.toList, (Str.ofString "\\").cps.toList.contains c = false) (hsz : x.length ≤ 1000)
    (hd : dp + 7 < recursionLimit) (hu : un + 80 < cLine)
    (hret : ∀ ws, reads x.cps.toList = some ws → ∀ S vs c' h₀' h' tk', StrsAre vs (txts ws) → KtsTurn (outer.filterMap (·.frame)) h₀ h₀' → Below A₀ base outer h₀' → Fr h₀' L h' m → News h₀' L h' ((S, lst vs c') :: news) → Q (.ref S) { s with heap := h', toks := tk' })
    (hX : reads x.cps.toList = none → ∀ gg h' e tk', Fr h₀ L gg m → gg.UpToSlots h' → RaisedSN base gg (envOf cn cs L a ccd :: outer) e (.type "ValueError") news h' → E (.ref e) { s with heap := h', toks := tk' }) :
    wpAny (model pw w) (ktrTop dp un gd cn cs L a ccd [] outer) (call (.type "list") [.ref lex]) Q E s := by
  subst he
  have N2 : News h₀ L s.heap (Mine.led w.params (wd1 ++ wd2) x (updT τ t') σ lex dlex io dio pb fs (([] : List Nat).length : Nat) u (stV .sp ts) 1 tl "" tt ((pb, dqE) :: (fs, dqE) :: news)) := by
    intro p hp
    apply N
    simp only [led, List.mem_cons] at hp ⊢
    rcases hp with h | h | h | h | h | h | h
    · exact .inr (.inr (.inl h))
    · exact .inr (.inr (.inr (.inl h)))
    · exact .inr (.inr (.inr (.inr (.inl h))))
    · exact .inr (.inr (.inr (.inr (.inr (.inl h)))))
    · exact .inr (.inl h)
    · exact .inl h
    · exact .inr (.inr (.inr (.inr (.inr (.inr h)))))
  refine list_c (pre := []) (lexes_reads x.cps.toList) B F X N2 T hk hbs wd_qt hsz ?_ ?_ l1 l2 l3 hd hu rfl (.inl rfl) ?_ ?_
  · intro p hp
    simp only [List.mem_cons] at hp
    rcases hp with rfl | rfl | hp
    · show @Ne Nat pb dio; omega
    · show @Ne Nat fs dio; omega
    · have := l6 p hp
      show @Ne Nat p.1 dio
      have : @LT.lt Nat _ p.1 dlex := this
      omega
  · intro p hp
    simp only [List.mem_cons] at hp
    rcases hp with rfl | rfl | hp
    · show @Ne Nat pb dlex; omega
    · show @Ne Nat fs dlex; omega
    · have : @LT.lt Nat _ p.1 dlex := l6 p hp
      show @Ne Nat p.1 dlex
      omega
  · exact hret
  · exact hX
end
theorem kw26 : True := by
  k_with "leaving ref" => (k_here; first
  | (refine' leave_newS ?k1 ?k0 ?k2 ?k3 ?_; (case k0 => assumption); (case k1 => assumption); (case k2 => assumption); (case k3 => k_asm); k_whole; intro zh' zR' zR2' zU'; (try dsimp only at zR' zR2' zU' ⊢))
  | (refine' leave_onSN ?k1 ?k2 ?k3 ?k4 ?_; (case k3 => assumption); (case k1 => assumption); (case k4 => assumption); (case k2 => assumption); k_whole; intro zh' zR' zR2' zU'; (try dsimp only at zR' zR2' zU' ⊢))
  | (refine' leave_raiseS ?k1 ?k0 ?k2 ?k3 ?_; (case k0 => assumption); (case k1 => assumption); (case k2 => assumption); (case k3 => k_asm); k_whole; intro zh' zt' zR' zR2' zU'; (try dsimp only at zR' zR2' zU' ⊢)))
  k_with "call type:list" => (k_here; k_dflt (refine' list0_c ?rB ?rF ?rX ?rN ?re ?rT ?rK ?l1 ?l2 ?l3 ?l4 ?l5 ?l6 ?rb ?rz ?rd ?ru ?_ ?_; (case rB => k_asm); (case rF => k_asm); (case rX => k_asm);  (case rN => k_asm); (case re => exact rfl); (case rT => k_asm); (case rK => first | exact rfl | assumption); (case l1 => assumption); (case l2 => assumption); (case l3 => assumption); (case l4 => assumption); (case l5 => assumption); (case l6 => assumption); (case rb => assumption); (case rz => assumption); (case rd => ktr_room); (case ru => ktr_units); k_whole); (all_goals first | refine fun (zws9 : List (List Nat)) ze9 zS9 zvs9 zc9 zg9 zh9 ztk9 zhv9 zT9 zB9 zF9 zN9 => ?_ | refine fun ze9 zg9 zh9 zx9 ztk9 zF9 zU9 zR9 => ?_))
  k_with "call ref" => (k_here; k_dflt (refine' mklex_c ?rB ?rF ?rX ?rN ?rT ?rK ?rd ?ru ?_; (case rB => k_asm); (case rF => k_asm); (case rX => k_asm);  (case rN => k_asm); (case rT => k_asm); (case rK => first | exact rfl | assumption); (case rd => ktr_room); (case ru => ktr_units); k_whole); intro zio9 zdio9 zpb9 zfs9 zlex9 zdlex9 σ9 τ9 zu9 zts9 ztl9 ztt9 zh9 ztk9 l10 l11 l12 l13 l14 l15 zF9 zN9; (try k_lt l15); (try dsimp only))
  trivial
section
variable {w : World} {mean : ExcName → Option Value} {mg mb : Str → Option Value} {dp un : Nat} {gd : Option (List Code)} {cn : Str} {cs : Scope} {a : Addr} {ccd : Value} {outer : List Env} {A₀ : Around} {base h₀ : Heap} {L : Addr} {m : Str → Option Value} {news : List (Addr × Obj)} {s : Shared} {Q E : Value → Shared → Prop} {x : Str} {t : Tok}
end
end Mine
end
section
open Lean Meta Elab PySem PySem.W PyProof.Rows
set_option maxRecDepth 100000
set_option maxHeartbeats 0
set_option Elab.async false
set_option linter.unusedVariables false
namespace Mine
/-- no code that `bytearray` looks for on the stack -/
def Clean : Code → Bool
  | .builtin id _ => !((["bytearray.__contains__", "bytearray.__mod__", "bytearray.__rmod__", "_struct.pack_into.held", "bytearray.find.held"] : List String).contains id || PySem.Builtin.Bytes.decodersThatHold.contains id)
  | _ => true
def NoEx (Γ : Ctx) : Prop := Clean Γ.code = true ∧ ∀ x ∈ Γ.below, Clean x.1 = true
def wpG {α : Type} (M : Model) (A : Around) (t : Sem α) (Q : α → Shared → Prop) (E : Value → Shared → Prop) (s : Shared) : Prop :=
  ∀ Γ p, Γ.In A → NoEx Γ → Sem.wp M Γ t (fun a _ s' => Q a s') (fun e _ s' => E e s') p s
def codeG (M : Model) (A : Around) (c : Code) (R : Result → Shared → Prop) (s : Shared) : Prop :=
  ∀ Γ p, Γ.code = c → Γ.Below A → NoEx Γ → wpCode M Γ R p s
section
variable {α β : Type} {M : Model} {A : Around} {E : Value → Shared → Prop} {s : Shared}
theorem wpG.of {t : Sem α} {Q : α → Shared → Prop} (h : wpAny M A t Q E s) : wpG M A t Q E s := fun Γ p hΓ _ => h Γ p hΓ
theorem codeG.of {c : Code} {R : Result → Shared → Prop} (h : codeAny M A c R s) : codeG M A c R s := fun Γ p hc hΓ _ => h Γ p hc hΓ
theorem wpG_mono {t : Sem α} {Q Q' : α → Shared → Prop} {E' : Value → Shared → Prop} (h : wpG M A t Q E s) (hQ : ∀ a s, Q a s → Q' a s) (hE : ∀ e s, E e s → E' e s) : wpG M A t Q' E' s :=
  fun Γ p hΓ hc => Sem.wp_mono M Γ t (fun a _ s => hQ a s) (fun e _ s => hE e s) p s (h Γ p hΓ hc)
theorem wpG_bind {m : Sem α} {f : α → Sem β} {Q : β → Shared → Prop} (h : wpG M A m (fun a s' => wpG M A (f a) Q E s') E s) : wpG M A (m >>= f) Q E s := fun Γ p hΓ hc => by
  rw [Sem.wp_bind']
  exact Sem.wp_mono M Γ m (fun a p' s' h' => h' Γ p' hΓ hc) (fun _ _ _ h' => h') p s (h Γ p hΓ hc)
/-- the first part in the old logic -/
theorem wpG_step {m : Sem α} {f : α → Sem β} {Q : β → Shared → Prop} (h : wpAny M A m (fun a s' => wpG M A (f a) Q E s') E s) : wpG M A (m >>= f) Q E s := wpG_bind (.of h)
theorem wpG_pure {a : α} {Q : α → Shared → Prop} (h : Q a s) : wpG M A (pure a) Q E s := fun _ _ _ _ => h
theorem wpG_holding {vs : List Value} {m : Sem α} {Q : α → Shared → Prop} (h : wpG M A m Q E s) : wpG M A (holding vs m) Q E s :=
  fun Γ p hΓ hc => by rw [Sem.wp_holding]; exact h Γ p hΓ hc
theorem wpG_onRaise {m : Sem α} {k : Value → Sem Unit} {Q : α → Shared → Prop} (h : wpG M A m Q (fun e s' => wpAny M A (k e) (fun _ s'' => E e s'') E s') s) : wpG M A (m.onRaise k) Q E s := fun Γ p hΓ hc => by
  rw [Sem.wp_onRaise]
  exact Sem.wp_mono M Γ m (fun _ _ _ h' => h') (fun e p' s' h' => h' Γ p' hΓ) p s (h Γ p hΓ hc)
theorem NoEx.enter {Γ : Ctx} {c : Code} {hd : Option Value} {p : Pos} (h : NoEx Γ) (hc : Clean c = true) : NoEx (Γ.enter c hd p) :=
  ⟨hc, fun x hx => by
    rcases List.mem_cons.mp hx with rfl | hx
    · exact h.1
    · exact h.2 x hx⟩
theorem codeG_of_tree {c : Code} {R : Result → Shared → Prop}
    (h : wpG M (A.under c) (M.den c) (fun fin s' => match fin with | .done f => R (.ok f) s' | .again c' => c'.quiet = true ∧ Clean c' = true ∧ codeG M A c' R s')
      (fun e s' => R (.error e) s') s) : codeG M A c R s := fun Γ p hc hΓ hcl => by
  rw [wpCode_iff_wp, hc]
  refine Sem.wp_mono M Γ _ (fun fin p' s' h' => ?_) (fun _ _ _ h' => h') p s (h Γ p (hc ▸ hΓ.in) hcl)
  cases fin with
  | done f => exact h'
  | again c' => exact ⟨h'.1, h'.2.2 (Γ.goto c') p' rfl (hΓ.goto c') ⟨h'.2.1, hcl.2⟩⟩
theorem codeG_mono {c : Code} {R R' : Result → Shared → Prop} (h : codeG M A c R s) (hR : ∀ r s, R r s → R' r s) : codeG M A c R' s := fun Γ p hc hΓ hcl => wpCode_mono hR (h Γ p hc hΓ hcl)
theorem wpG_run {c : Code} {h : Option Value} {Q : Flow → Shared → Prop}
    (hc : codeG M (A.mark h) c (fun r s' => match r with | .ok f => Q f s' | .error e => E e s') s) (hcl : Clean c = true) (hnb : h ≠ some byPass := by intro x; cases x) :
    wpG M A (run c h) Q E s :=
  fun Γ p hΓ hx => by rw [Sem.wp_run]; exact hc _ p rfl (hΓ.enter c h p hnb) (hx.enter hcl)
theorem wpG_runValue {c : Code} {Q : Value → Shared → Prop}
    (hc : codeG M A c (fun r s' => match r with | .ok (.ret v) => Q v s' | .ok _ => False | .error e => E e s') s) (hcl : Clean c = true) :
    wpG M A (runValue c) Q E s := fun Γ p hΓ hx => by rw [Sem.wp_runValue]; exact hc _ p rfl (hΓ.enter c none p (by intro x; cases x)) (hx.enter hcl)
theorem wpG_call {f : Value} {pos : List Value} {kw : List (Str × Value)} {Q : Value → Shared → Prop}
    (hc : codeG M A (.call f ⟨pos, kw⟩) (fun r s' => match r with | .ok (.ret v) => Q v s' | .ok _ => False | .error e => E e s') s) :
    wpG M A (call f pos kw) Q E s := wpG_runValue hc rfl
theorem wpG_runOwn {env : Env} {c : Code} {h : Option Value} {Q : Flow → Shared → Prop}
    (hc : codeG M (A.mark h) c (fun r s' => match r with | .ok f => Q f s' | .error e => cameBackBy M A env E e s') s) (hcl : Clean c = true) (hnb : h ≠ some byPass := by intro x; cases x) :
    wpG M A (runOwn c env h) Q E s := by
  unfold runOwn
  exact wpG_onRaise (wpG_run hc hcl hnb)
theorem clean_any {f : Code × Pos → Bool} (hf : ∀ c p, Clean c = true → f (c, p) = false) {Γ : Ctx} (h : NoEx Γ) (p : Pos) : ((Γ.code, p) :: Γ.below).any f = false := by
  rw [List.any_cons, hf _ _ h.1, Bool.false_or, List.any_eq_false]
  intro x hx
  rw [show x = (x.1, x.2) from rfl, hf _ _ (h.2 x hx)]
  exact Bool.false_ne_true
theorem wpG_exported {self : Value} {Q : Bool → Shared → Prop} (h : Q false s) : wpG M A (PySem.Builtin.Bytes.exported self) Q E s := fun Γ p hΓ hc => by
  unfold PySem.Builtin.Bytes.exported
  show Q (((Γ.code, p) :: Γ.below).any _) s
  rw [clean_any ?_ hc]
  · exact h
  · intro c p hcl
    split <;> first
      | rfl
      | (rename_i heq; cases heq; simp [Clean] at hcl; done)
      | (rename_i heq; cases heq; simp only [Clean, Bool.not_eq_true', Bool.or_eq_false_iff] at hcl; rw [hcl.2, Bool.and_false])
end
section
variable {prog : Program} {w : World} {A : Around} {E : Value → Shared → Prop} {s : Shared} {env : Env}
theorem codeG_builtin {id : String} {args : Args} {b : Builtin} {R : Result → Shared → Prop} (hb : entryFor table id = some b)
    (h : wpG (model prog w) (A.under (.builtin id args)) (b args)
      (fun fin s' => match fin with | .done f => R (.ok f) s' | .again c' => c'.quiet = true ∧ Clean c' = true ∧ codeG (model prog w) A c' R s') (fun e s' => R (.error e) s') s) :
    codeG (model prog w) A (.builtin id args) R s := by
  refine codeG_of_tree ?_
  show wpG _ _ (match entryFor table id with | some b => b args | none => unsupported ((withoutEnding? id "#data").getD id)) _ _ s
  rw [hb]; exact h
theorem codeG_func {body env} {R : Result → Shared → Prop}
    (h : wpG (model prog w) (A.deeper env) (execs body env) (fun f s' => R (.ok (.ret (match f with | .ret v => v | _ => .none))) s')
      (fun e s' => wpAny (model prog w) (A.deeper env) (leaving env e) (fun _ s'' => R (.error e) s'') (fun e' s'' => R (.error e') s'') s') s) :
    codeG (model prog w) A (.func body env) R s := by
  refine codeG_of_tree ?_
  show wpG _ (A.deeper env) (do point; match ← (execs body env).onRaise (leaving env) with | .ret v => ret v | _ => ret .none) _ _ s
  refine wpG_step (wpAny_point (wpG_bind (wpG_onRaise (wpG_mono h (fun f s' h' => ?_) fun _ _ h' => h'))))
  cases f <;> exact wpG_pure h'
theorem codeG_call_def {R : Result → Shared → Prop} {a : Addr} {o : Obj} {fd : FuncData} {body : List Stmt} {args : Args} {binds : List (Str × Value)}
    (hroom : A.depth < recursionLimit) (ho : s.heap.get? a = some o) (hdata : o.data = .func fd) (hlim : s.heap.NoLimit) (hcd : s.heap.CodeRec fd.code fd.qualname)
    (hbody : fd.body = .stmts body) (hbind : BindsTo s fd args binds)
    (hcell : ∀ x ∈ fd.scope.names, x.2 ≠ .cell) (hloc : ∀ x ∈ binds, fd.scope.names.lookup x.1 = some .local)
    (h : ∀ h₀, h₀.Ns s.heap.objs.size (fun x => binds.reverse.lookup x) → (∀ b o, s.heap.get? b = some o → h₀.get? b = some o) →
      wpG (model prog w) (A.deeper (callEnv fd s.heap.objs.size a)) (execs body (callEnv fd s.heap.objs.size a)) (fun f s' => R (.ok (.ret (match f with | .ret v => v | _ => .none))) s')
        (fun e s' => wpAny (model prog w) (A.deeper (callEnv fd s.heap.objs.size a)) (leaving (callEnv fd s.heap.objs.size a) e) (fun _ s'' => R (.error e) s'') (fun e' s'' => R (.error e') s'') s')
        { s with heap := h₀, toks := s.toks + binds.length })
    (hco : fd.scope.isCoroutine = false := by rfl) (hgen : fd.scope.isGenerator = false := by rfl) (hk : fd.scope.kind = .function := by rfl) :
    codeG (model prog w) A (.call (.ref a) args) R s := by
  refine codeG_of_tree (wpG.of ?_)
  show wpAny _ A.in1 (callAny (.ref a) args) _ _ s
  simp only [callAny]
  refine wpAny_bind (wpAny_load ho ?_)
  obtain ⟨c, oc, vs, tq, hc, hoc, hdc, hq⟩ := hcd
  simp only [hdata, callFunction, hco, hgen, hbody]
  have hb : wpAny (model prog w) A.in1 (bindArgs fd args) (fun binds s₁ =>
      wpAny (model prog w) A.in1 (newFunctionEnv fd.scope fd.globals fd.closure binds (fd.qualname ++ ".<locals>.") (some a) fd.code none fd.builtins)
        (fun env s₂ => s₂.heap.NoLimit ∧ codeG (model prog w) A (.func body env) R s₂) (fun e s' => R (.error e) s') s₁) (fun e s' => R (.error e) s') s := by
    refine hbind _ _ _ _ (wpAny_newFunctionEnv hcell hloc (fun h₀ hns₀ hsb₀ => ⟨hlim.fresh _ hsb₀, codeG_func (h h₀ hns₀ fun b o e => ?_)⟩) hk)
    exact hsb₀.extBut b o (Nat.ne_of_lt (Heap.lt_size e)) (Heap.get?_push_of_some _ e)
  rw [hc] at hb ⊢
  refine wpAny_bind (m := field (.ref c) 1) (wpAny_field hoc hdc hq (wpAny_bind (wpAny_pure ?_)))
  exact wpAny_bind (wpAny_mono hb (fun binds s₁ h₁ => wpAny_bind (wpAny_mono h₁ (fun env s₂ h₂ => wpAny_bind (wpAny_enterFrame h₂.1 hroom
    (wpAny_pure (And.intro rfl ⟨rfl, h₂.2⟩)))) fun _ _ h' => h')) fun _ _ h' => h')
theorem wpG_execs_cons {M : Model} {st rest} {Q : Flow → Shared → Prop}
    (h : wpG M A (exec st env) (fun f s' => match f with | .next => wpG M A (execs rest env) Q E s' | f => Q f s') E s) :
    wpG M A (execs (st :: rest) env) Q E s := fun Γ p hΓ hc => by
  rw [execs_cons, Sem.wp_bind']
  refine Sem.wp_mono M Γ _ (fun f p' s' h' => ?_) (fun _ _ _ h' => h') _ _ (h Γ p hΓ hc)
  cases f <;> first | exact h' Γ p' hΓ hc | exact h'
theorem wpG_Assign_Name {M : Model} {x pos' value pos} {Q : Flow → Shared → Prop}
    (h : wpG M A (eval value env) (fun v s₁ => wpAny M A (storeName env x v) (fun _ => Q .next) E s₁) E s)
    (hs : swapsWith value (some (.Name x pos')) pos.line env = pure false := by rfl) :
    wpG M A (exec (.Assign [.Name x pos'] value pos) env) Q E s := fun Γ p hΓ hc => by
  simp only [exec_Assign_Name env x pos' value pos hs, Sem.wp_bind', Sem.wp_cmd_standAt, Sem.wp_bindName, Sem.wp_pure']
  exact Sem.wp_mono M Γ _ (fun v _ s₁ h₁ => h₁ Γ _ hΓ) (fun _ _ _ h' => h') _ _ (h Γ _ hΓ hc)
theorem wpG_Call {M : Model} {func : PySem.Expr} {args : List PySem.Expr} {pos : Pos} {Q : Value → Shared → Prop}
    (h : wpAny M A (eval func env) (fun f s₁ => wpG M A (callWith pos f [] (backTo pos (starEach args env)) []) Q E s₁) E s)
    (he : eval (.Call func args [] pos) env = (do callWith pos (← eval func env) [] (backTo pos (starEach args env)) (backToKw pos (keywordEach [] env))) := by rfl) :
    wpG M A (eval (.Call func args [] pos) env) Q E s := by
  rw [he]; exact wpG_step h
theorem wpG_spliced_nil {M : Model} {Q : List Value → Shared → Prop} (h : Q [] s) : wpG M A (spliced []) Q E s := wpG_pure h
theorem wpG_spliced_cons {M : Model} {x : Sem Value} {rest : List (Bool × Sem Value)} {Q : List Value → Shared → Prop}
    (h : wpG M A x (fun v s₁ => wpG M A (spliced rest) (fun vs s₂ => Q (v :: vs) s₂) E s₁) E s) : wpG M A (spliced ((false, x) :: rest)) Q E s := by
  rw [spliced]
  refine wpG_bind (wpG_mono h (fun v s₁ h₁ => ?_) fun _ _ x => x)
  simp only [Bool.false_eq_true, if_false]
  exact wpG_step (wpAny_pure (wpG_bind (wpG_holding (wpG_mono h₁ (fun vs s₂ h₂ => wpG_pure h₂) fun _ _ x => x))))
theorem wpG_evalArgs {M : Model} {f : Value} {x : Sem Value} {rest : List (Bool × Sem Value)} {Q : Args → Shared → Prop}
    (h : wpG M A (spliced ((false, x) :: rest)) (fun vs s' => Q ⟨vs, []⟩ s') E s) : wpG M A (evalArgs f true ((false, x) :: rest) []) Q E s := by
  unfold evalArgs
  show wpG M A (spliced ((false, x) :: rest) >>= _) Q E s
  refine wpG_bind (wpG_mono h (fun vs s' h' => ?_) fun _ _ x => x)
  refine wpG_holding ?_
  exact wpG_step (wpAny_pure (wpG_step (wpAny_pure (wpG_pure h'))))
theorem wpG_keep {M : Model} {f : Value} {pos : List Value} {kw : List (Str × Value)} {mk : Value} {Q : Value → Shared → Prop} (h : wpG M A (call f pos kw) Q E s) : wpG M A (callMarked mk f pos kw) Q E s := by
  unfold callMarked
  exact fun Γ p hΓ hc => by rw [Sem.wp_keep]; exact h Γ p hΓ hc
theorem wpG_callWith {M : Model} {pos : Pos} {f : Value} {first : List Value} {Q : Value → Shared → Prop} {P : Heap → Prop} {args : List (Bool × Sem Value)} {keywords : List (Option Str × Sem Value)} (hplain : (args.any (·.1) || keywords.any (·.1.isNone)) = false)
    (hk : ∀ h, P h → ∃ k, (k = Keeper.frame ∨ k = Keeper.machine ∨ k = Keeper.boundFrame) ∧ Looks M h (keeperOf f) k)
    (h : wpG M A (evalArgs f true args keywords) (fun a s₁ => P s₁.heap ∧ wpG M A (call f (first ++ a.pos) a.kw) Q E s₁) E s) : wpG M A (callWith pos f first args keywords) Q E s := by
  unfold callWith
  refine wpG_bind (wpG_holding (wpG_mono h (fun a s₁ h₁ => wpG_step (wpAny_standAt ?_)) fun _ _ x => x))
  obtain ⟨k, hk', L⟩ := hk _ h₁.1
  simp only [hplain]
  refine wpG_step (L.here ?_)
  have tail : ∀ {t : Sem Value}, wpG M A t Q E s₁ → wpG M A (t >>= fun r => holding [r] point >>= fun _ => pure r) Q E s₁ :=
    fun ht => wpG_bind (wpG_mono ht (fun r s₂ hr => wpG_step (wpAny_holding (wpAny_point (wpG_pure hr)))) fun _ _ x => x)
  have marked (mk : Value) : wpG M A (callMarked mk f (first ++ a.pos) a.kw) Q E s₁ := wpG_keep h₁.2
  rcases hk' with rfl | rfl | rfl <;> dsimp only <;> first | exact tail h₁.2 | (split <;> first | exact tail h₁.2 | exact tail (marked _))
theorem wpG_callWith_K {M : Model} {K : Frag} {pos : Pos} {f : Value} {first : List Value} {Q : Value → Shared → Prop} {e : PySem.Expr} {rest : List PySem.Expr} (hk : keepIn K f = true)
    (h : wpG M A (spliced (backTo pos (starEach (e :: rest) env))) (fun vs s₁ => K.In s₁.heap ∧ wpG M A (call f (first ++ vs)) Q E s₁) E s)
    (he : starEach (e :: rest) env = (false, eval e env) :: starEach rest env := by rfl) (hplain : (backTo pos (starEach rest env)).any (·.1) = false := by rfl) :
    wpG M A (callWith pos f first (backTo pos (starEach (e :: rest) env)) []) Q E s := by
  rw [he] at h ⊢
  exact wpG_callWith (by show ((false || (backTo pos (starEach rest env)).any (·.1)) || false) = false; rw [hplain]; rfl) (keeps_K hk) (wpG_evalArgs h)
end
end Mine
end
section
open Lean Meta Elab PySem PySem.W PyProof.Rows
set_option maxRecDepth 100000
set_option maxHeartbeats 0
set_option Elab.async false
set_option linter.unusedVariables false
namespace Mine
abbrev baObj (b : Array UInt8) : Obj := { cls := .type "bytearray", data := .bytearray b }
theorem mro_ba : mroOf (.type "bytearray") = pure [.type "bytearray", .type "object"] := by rw [mroOf_type]; kernel_rfl
theorem lookup_ba_new : typeLookup (.type "bytearray") "__new__" = pure (some (.builtin "bytearray.__new__")) := by rw [typeLookup_type, builtinLookup_eq_fast]; kernel_rfl
theorem slot_ba_init : Slot "bytearray" "__init__" "bytearray.__init__" :=
  .of (owner := "bytearray") (n := "__init__") (by rw [typeLookup_type, builtinLookup_eq_fast]; kernel_rfl) (by decide +kernel) (by decide +kernel) (by decide +kernel)
    (by first | exact .inl (by decide +kernel) | exact .inr (by decide +kernel)) (by rw [isSubtype_type]; kernel_rfl)
theorem called_ba : TypeCalled "bytearray" "bytearray.__new__" "bytearray.__init__" :=
  ⟨by decide +kernel, by decide +kernel, ⟨_, _, mro_ba⟩, madeBy_type mro_ba lookup_ba_new (by decide +kernel), by decide +kernel, by rw [isSubtype_type]; kernel_rfl, slot_ba_init⟩
theorem typeCall_ba (a : Value) : checkTypeCall "bytearray" ⟨[a], []⟩ = pure () := by kernel_rfl
theorem newCall_ba (a : Value) : checkBuiltinCall "bytearray.__new__" ⟨[.type "bytearray", a], []⟩ = pure () := by kernel_rfl
theorem entry_ba_new : entryFor table "bytearray.__new__" = some Builtin.«list.__new__» := entryFor_alias (id' := "list.__new__") (by kernel_rfl) (by first | rfl | decide +kernel) (by decide +kernel) (by kernel_rfl)
theorem entry_ba_init : entryFor table "bytearray.__init__" = some Builtin.«bytearray.__init__» := entryFor_of_tree (by kernel_rfl)
theorem plain_ba_new : plainId "bytearray.__new__" = true := by decide +kernel
theorem plain_ba_init : plainId "bytearray.__init__" = true := by decide +kernel
theorem args_ba_init (a b : Value) : argsOk "bytearray.__init__" ⟨[a, b], []⟩ := by unfold argsOk; kernel_rfl
theorem sub_ba_self : isSubtype (.type "bytearray") (.type "bytearray") = pure true := by rw [isSubtype_type]; kernel_rfl
theorem owner_ba_new : ("bytearray.__new__".splitOn ".__new__").headD "" = "bytearray" := by simp +decide [String.splitOn, String.splitOnAux]
theorem no_ba_release : typeLookup (.type "bytearray") "__release_buffer__" = pure (some (.builtin "bytearray.__release_buffer__")) := by rw [typeLookup_type, builtinLookup_eq_fast]; kernel_rfl
section
variable {prog : Program} {w : World} {A : Around} {E : Value → Shared → Prop} {s : Shared}
theorem code_ba_new (a : Value) {Q₁ : Value → Shared → Prop}
    (h : Q₁ (.ref s.heap.objs.size) { s with heap := s.heap.push (baObj #[]) }) :
    codeAny (model prog w) A (.call (.builtin "bytearray.__new__") ⟨[.type "bytearray", a], []⟩) (wants Q₁ E) s := by
  refine codeAny_of_tree ?_
  show wpAny _ A.in1 (do checkBuiltinCall "bytearray.__new__" ⟨[.type "bytearray", a], []⟩; again (.builtin "bytearray.__new__" ⟨[.type "bytearray", a], []⟩)) _ _ s
  refine wpAny_bind (wpAny_of_eq (newCall_ba a) (wpAny_pure ⟨plainId_quiet plain_ba_new _, codeAny_builtin_stack entry_ba_new rfl fun p st => ?_⟩))
  rw [Around.under_plainId plain_ba_new _]
  have hsub := sub_ba_self
  have hown := owner_ba_new
  obtain ⟨hp, g, d, tk, os⟩ := s
  simp only [hown]
  wp_walk
  exact h
theorem wpG_if_false {α : Type} {M : Model} {c : Bool} {a b : Sem α} {Q : α → Shared → Prop} (hc : c = false) (h : wpG M A b Q E s) : wpG M A (if c = true then a else b) Q E s := by
  subst hc
  exact h
theorem wpG_if_true {α : Type} {M : Model} {c : Bool} {a b : Sem α} {Q : α → Shared → Prop} (hc : c = true) (h : wpG M A a Q E s) : wpG M A (if c = true then a else b) Q E s := by
  subst hc
  exact h
theorem clean_call (id : String) (args args' : Args) (h : Clean (.builtin id args) = true) : Clean (.builtin id args') = true := h
theorem codeG_call_builtin {id : String} {args : Args} {b : Builtin} {R : Result → Shared → Prop} (hq : plainId id = true) (hcl : Clean (.builtin id args) = true) (hb : entryFor table id = some b)
    (h : wpAny (model prog w) A.in1 (checkBuiltinCall id args) (fun _ s₁ => wpG (model prog w) A.in1 (b args)
      (fun fin s' => match fin with | .done f => R (.ok f) s' | .again c' => c'.quiet = true ∧ Clean c' = true ∧ codeG (model prog w) A c' R s') (fun e s' => R (.error e) s') s₁)
      (fun e s' => R (.error e) s') s) : codeG (model prog w) A (.call (.builtin id) args) R s := by
  refine codeG_of_tree ?_
  show wpG _ A.in1 (do checkBuiltinCall id args; again (.builtin id args)) _ _ s
  refine wpG_step (wpAny_mono h (fun _ s₁ h₁ => wpG_pure ⟨plainId_quiet hq _, hcl, codeG_builtin hb ?_⟩) fun _ _ e => e)
  rw [Around.under_plainId hq _]
  exact h₁
theorem lookup_int_index : typeLookup (.type "int") "__index__" = pure (some (.builtin "int.__index__")) := by rw [typeLookup_type, builtinLookup_eq_fast]; kernel_rfl
theorem fits_small {n : Nat} (h : n ≤ 1000) : (!Builtin.Bytes.fitsIndex (n : Int)) = false := by
  have e : (2 : Int) ^ 63 = 9223372036854775808 := by decide
  unfold Builtin.Bytes.fitsIndex
  rw [e]
  simp only [Bool.not_eq_false', Bool.and_eq_true, decide_eq_true_eq]
  omega
theorem not_max {n : Nat} (h : n ≤ 1000) : (((n : Int)) == 2 ^ 63 - 1) = false := by
  have e : (2 : Int) ^ 63 = 9223372036854775808 := by decide
  rw [e]
  simp only [beq_eq_false_iff_ne, ne_eq]
  omega
theorem not_long {n : Nat} (h : n ≤ 1000) : Builtin.Bytes.tooLong ((n : Int)).toNat = false := by
  unfold Builtin.Bytes.tooLong
  rw [sizeLine_eq, decide_eq_false_iff_not]
  omega
theorem ends_rel : ("bytearray.__release_buffer__".endsWith ("." ++ "__release_buffer__")) = true := by decide +kernel
theorem drop_rel : ("bytearray.__release_buffer__".dropRight ("__release_buffer__".length + 1)) = "bytearray" := by decide +kernel
theorem own_ba {M : Model} {a : Addr} {Q : Bool → Shared → Prop} (hT : s.TypeIs (.ref a) "bytearray") (h : Q false s) : wpAny M A (Builtin.Bytes.ownRelease (.ref a)) Q E s := by
  unfold Builtin.Bytes.ownRelease Builtin.Bytes.slotIsOwn
  refine wpAny_bind (wpAny_bind (wpAny_specialOf hT no_ba_release ?_))
  dsimp only
  rw [ends_rel, drop_rel]
  refine wpAny_isInstance hT sub_ba_self ?_
  exact wpAny_pure h
theorem bind_ba (v : Value) : Builtin.Bytes.bindOptional "bytearray.__init__" "bytearray" ["source", "encoding", "errors"] [v] [] = pure [some v, none, none] := by kernel_rfl
theorem write_ba {M : Model} {a : Addr} {b : Array UInt8} {f : Array UInt8 → Array UInt8} {Q : Unit → Shared → Prop} (ha : s.heap.get? a = some (baObj b)) (hf : (f b).size ≤ 1000)
    (h : ∀ h', h'.get? a = some (baObj (f b)) → Heap.SameBut a s.heap h' → Q () { s with heap := h' }) : wpAny M A (Builtin.Bytes.write (.ref a) f) Q E s := by
  show wpAny _ _ (updateBytearray a f) _ _ _
  unfold updateBytearray
  refine wpAny_bind (wpAny_load ha ?_)
  show wpAny _ _ (update a (Obj.mapBytearray f) >>= fun _ => lookBehind a) _ _ _
  refine wpAny_bind (wpAny_update ha ?_)
  have hS : (s.heap.update a (Obj.mapBytearray f)).get? a = some (baObj (f b)) := Heap.get?_update_self (Obj.mapBytearray f) ha rfl
  refine wpAny_lookBehind hS ?_ (h _ hS (Heap.SameBut.update ..))
  show (if (f b).size > sizeLine then some "bytearray:memory" else none) = none
  rw [if_neg]
  rw [sizeLine_eq]; omega
theorem ba_init {a : Addr} {n : Nat} {t : Tok} {Q : Shared → Prop} (hn : n ≤ 1000) (ha : s.heap.get? a = some (baObj #[]))
    (h : ∀ h' k, h'.get? a = some (baObj (Array.replicate n 0)) → Heap.SameBut a s.heap h' → Q { s with heap := h', toks := k }) :
    wpG (model prog w) A (Builtin.«bytearray.__init__» ⟨[.ref a, .int (n : Nat) t], []⟩) (fun fin s' => fin = .done (.ret .none) ∧ Q s') E s := by
  have hT : s.TypeIs (.ref a) "bytearray" := ⟨_, ha, rfl⟩
  unfold Builtin.«bytearray.__init__»
  refine wpG_step (own_ba hT ?_)
  refine wpG_if_false rfl ?_
  refine wpG_step (wpAny_of_eq (bind_ba _) ?_)
  refine wpG_step (wpAny_of_eq (a := ()) rfl ?_)
  refine wpG_step (wpAny_of_eq (a := ()) rfl ?_)
  refine wpG_bind ?_
  show wpG _ _ (orM _ _) _ _ _
  unfold orM
  refine wpG_bind (wpG_exported ?_)
  show wpG _ _ (Builtin.Bytes.exportsOf (.ref a) >>= _) _ _ _
  unfold Builtin.Bytes.exportsOf
  refine wpG_step (wpAny_bind (wpAny_load ha (wpAny_pure (wpG_pure ?_))))
  refine wpG_if_false (by decide) ?_
  refine wpG_step (write_ba ha (by simp) fun h1 g1 s1 => ?_)
  show wpG _ _ (asStr? (.int (n : Nat) t) >>= _) _ _ _
  have e1 : asStr? (.int (n : Nat) t) = pure none := by
    unfold asStr? notAStandIn
    rfl
  have e2 : specialOf (.int (n : Nat) t) (Str.ofString "__index__") = pure (some (.builtin "int.__index__")) := lookup_int_index
  have e3 : asIndex (.int (n : Nat) t) = pure (n : Int) := rfl
  have H : ∀ {α β : Type} (m : Sem α) (f : α → Sem β) {Q : β → Shared → Prop} {s : Shared}, wpAny (model prog w) A m (fun a s' => wpG (model prog w) A (f a) Q E s') E s → wpG (model prog w) A (m >>= f) Q E s := fun m f _ _ h => wpG_step h
  have IF : ∀ {α : Type} (c : Bool) (a b : Sem α) {Q : α → Shared → Prop} {s : Shared}, c = false → wpG (model prog w) A b Q E s → wpG (model prog w) A (if c = true then a else b) Q E s := fun c a b _ _ hc h => wpG_if_false hc h
  have IT : ∀ {α : Type} (c : Bool) (a b : Sem α) {Q : α → Shared → Prop} {s : Shared}, c = true → wpG (model prog w) A a Q E s → wpG (model prog w) A (if c = true then a else b) Q E s := fun c a b _ _ hc h => wpG_if_true hc h
  refine H _ _ ?_
  trace "0"
  rw [e1]
  refine wpAny_pure ?_
  trace "1"
  refine H _ _ ?_
  trace "2"
  refine wpAny_pure ?_
  trace "3"
  refine H _ _ ?_
  trace "4"
  rw [e2]
  refine wpAny_pure ?_
  refine IT _ _ _ ?c ?_
  case c => rfl
  refine H _ _ ?_
  refine wpAny_attempt ?_
  rw [e3]
  refine wpAny_pure ?_
  dsimp only
  refine IF _ _ _ ?c ?_
  case c => exact fits_small hn
  rw [if_neg (show ¬ ((n : Int) < 0) by omega)]
  refine IF _ _ _ ?c ?_
  case c => exact not_max hn
  refine IF _ _ _ ?c ?_
  case c => exact not_long hn
  refine H _ _ ?_
  refine wpAny_rule ?_
  trace "6"
  by_cases h0 : n = 0
  · subst h0
    rw [if_neg (by simp)]
    exact wpG_pure ⟨rfl, h h1 _ g1 s1⟩
  · rw [if_pos (by omega)]
    refine wpG_step (write_ba g1 (by simp; omega) fun h2 g2 s2 => ?_)
    rw [show ((n : Int)).toNat = n by omega] at g2
    exact wpG_pure ⟨rfl, h h2 _ g2 (s1.trans s2)⟩
theorem call_ba {n : Nat} {t : Tok} {Q : Value → Shared → Prop} (hn : n ≤ 1000)
    (h : ∀ h' k, h'.get? s.heap.objs.size = some (baObj (Array.replicate n 0)) → Heap.SameBut s.heap.objs.size (s.heap.push (baObj #[])) h' → Q (.ref s.heap.objs.size) { s with heap := h', toks := k }) :
    wpG (model prog w) A (call (.type "bytearray") [.int (n : Nat) t]) Q E s := by
  obtain ⟨c, tl, hmro⟩ := called_ba.mro
  have hmade := called_ba.made
  have h1 := called_ba.notType
  have h2 := called_ba.canCreate
  refine wpG_call (codeG_of_tree ?_)
  show wpG _ _ (callAny (.type "bytearray") _) _ _ _
  refine wpG_pure ⟨Code.quiet_builtin _ (by decide +kernel), clean_call "type.__call__" {} _ (by decide +kernel), codeG_builtin F.entry_type_call ?_⟩
  rw [Around.under_plain (weight_type_call_type "bytearray" [.int (n : Nat) t] []) rfl]
  unfold Builtin.«type.__call__»
  refine wpG_if_false h1 ?_
  refine wpG_if_false h2 ?_
  refine wpG_step (wpAny_of_eq (typeCall_ba _) ?_)
  refine wpG_step (wpAny_of_eq hmro ?_)
  refine wpG_if_false rfl ?_
  refine wpG_step (wpAny_of_eq hmade ?_)
  refine wpG_step (wpAny_pure ?_)
  refine wpG_step (wpAny_holding (wpAny_call (code_ba_new _ ?_)))
  have hS : (s.heap.push (baObj #[])).get? s.heap.objs.size = some (baObj #[]) := Heap.get?_push_size _ rfl
  have hT : ({ s with heap := s.heap.push (baObj #[]) } : Shared).TypeIs (.ref s.heap.objs.size) "bytearray" := ⟨_, hS, rfl⟩
  refine wpG_step (wpAny_isInstance hT sub_ba_self ?_)
  refine wpG_if_false rfl ?_
  refine wpG_bind (wpG_holding ?_)
  unfold callSpecial?
  refine wpG_step (wpAny_specialOf hT slot_ba_init.lookup ?_)
  simp only [slot_ba_init.bind]
  refine wpG_holding (wpG_step (wpAny_pure (wpG_bind (wpG_call (codeG_call_builtin plain_ba_init (clean_call "bytearray.__init__" {} _ (by decide +kernel)) entry_ba_init (slot_ba_init.check _ _ _ _ _ _ _ _ hT (args_ba_init _ _) ?_))))))
  refine wpG_mono (ba_init (Q := fun s' => Q (.ref s.heap.objs.size) s') hn hS ?_) ?_ (fun _ _ e => e)
  · intro h' k hg hs
    exact h h' k hg hs
  · rintro fin s' ⟨rfl, hq⟩
    refine wpG_pure ?_
    refine wpG_if_false rfl ?_
    exact wpG_pure hq
end
end Mine
end
section
open Lean Meta Elab PySem PySem.W PyProof.Rows
set_option maxRecDepth 100000
set_option maxHeartbeats 0
set_option Elab.async false
set_option linter.unusedVariables false
set_option linter.deprecated false
namespace Mine
theorem slot_ba_set : Slot "bytearray" "__setitem__" "bytearray.__setitem__" :=
  .of (owner := "bytearray") (n := "__setitem__") (by rw [typeLookup_type, builtinLookup_eq_fast]; kernel_rfl) (by decide +kernel) (by decide +kernel) (by decide +kernel)
    (by first | exact .inl (by decide +kernel) | exact .inr (by decide +kernel)) (by rw [isSubtype_type]; kernel_rfl)
theorem entry_ba_set : entryFor table "bytearray.__setitem__" = some Builtin.«bytearray.__setitem__» := by first | exact entryFor_of_fast (by kernel_rfl) | exact entryFor_of_tree (by kernel_rfl)
theorem args_ba_set (a b c : Value) : argsOk "bytearray.__setitem__" ⟨[a, b, c], []⟩ := by unfold argsOk; kernel_rfl
theorem no_ba_bytes : typeLookup (.type "bytearray") "__bytes__" = pure none := by rw [typeLookup_type, builtinLookup_eq_fast]; kernel_rfl
theorem no_ba_index : typeLookup (.type "bytearray") "__index__" = pure none := by rw [typeLookup_type, builtinLookup_eq_fast]; kernel_rfl
theorem ba_buffer : typeLookup (.type "bytearray") "__buffer__" = pure (some (.builtin "bytearray.__buffer__")) := by rw [typeLookup_type, builtinLookup_eq_fast]; kernel_rfl
theorem ends_buf : ("bytearray.__buffer__".endsWith ("." ++ "__buffer__")) = true := by decide +kernel
theorem drop_buf : ("bytearray.__buffer__".dropRight ("__buffer__".length + 1)) = "bytearray" := by decide +kernel
section
variable {prog : Program} {w : World} {A : Around} {E : Value → Shared → Prop} {s : Shared}
theorem if_bool_false {α : Type} {c : Bool} {x y : α} (h : c = false) : (if c = true then x else y) = y := by rw [h]; rfl
theorem sub_ba {k : Nat} {u : Tok} (hk : k ≤ 1000) : Builtin.Bytes.subscript? (.int (k : Nat) u) = pure (some (k : Int)) := by
  have e3 : asIndex (.int (k : Nat) u) = pure (k : Int) := rfl
  have e2 : specialOf (.int (k : Nat) u) (Str.ofString "__index__") = pure (some (.builtin "int.__index__")) := lookup_int_index
  unfold Builtin.Bytes.subscript?
  rw [e2, pure_bind, e3]
  dsimp only [Option.isNone_some]
  rw [if_bool_false rfl, pure_bind, if_bool_false (fits_small hk)]
theorem val_ba {k : Nat} {u : Tok} (hk : k < 256) : Builtin.Bytes.byteValue (.int (k : Nat) u) = pure k.toUInt8 := by
  have e3 : asIndex (.int (k : Nat) u) = pure (k : Int) := rfl
  unfold Builtin.Bytes.byteValue
  rw [e3, pure_bind, if_bool_false (by simp; omega)]
  rfl
theorem seq_ba {k n : Nat} (h : k < n) : seqIndex? (k : Int) n = some k := by
  unfold seqIndex?
  simp
  omega
theorem ba_set {a : Addr} {b : Array UInt8} {k v : Nat} {u u' : Tok} {Q : Unit → Shared → Prop} (ha : s.heap.get? a = some (baObj b)) (hb : b.size ≤ 1000) (hk : k < b.size) (hv : v < 256)
    (h : ∀ h', h'.get? a = some (baObj (b.setIfInBounds k v.toUInt8)) → Heap.SameBut a s.heap h' → Q () { s with heap := h' }) :
    wpAny (model prog w) A (setItem (.ref a) (.int (k : Nat) u) (.int (v : Nat) u')) Q E s := by
  have hT : s.TypeIs (.ref a) "bytearray" := ⟨_, ha, rfl⟩
  unfold setItem
  refine wpAny_holding ?_
  refine wpAny_bind (wpAny_sequenceKey hT (by decide) ?_)
  refine wpAny_bind (wpAny_callSpecial?_slot (name := Str.ofString "__setitem__") hT slot_ba_set (wpAny_call_entry slot_ba_set hT entry_ba_set ?_ (args_ba_set _ _ _)))
  unfold Builtin.«bytearray.__setitem__»
  refine bm_if_false ?c ?_
  case c => rfl
  dsimp (config := { zeta := false }) only
  rw [sub_ba (by omega), pure_bind]
  dsimp (config := { zeta := false }) only
  rw [val_ba hv, pure_bind]
  refine wpAny_bind ?_
  unfold Builtin.Bytes.payload Builtin.Bytes.payload?
  refine wpAny_bind ?_
  refine wpAny_bind ?_
  refine wpAny_load (o := baObj b) ?c ?_
  case c => exact ha
  dsimp only
  refine wpAny_pure ?_
  refine wpAny_pure ?_
  rw [seq_ba hk]
  dsimp only
  refine wpAny_bind ?_
  refine write_ba (b := b) ?c ?d ?_
  case c => exact ha
  case d => simp; omega
  intro h' g' s'
  exact wpAny_pure ⟨_, rfl, wpAny_pure (h h' g' s')⟩
theorem buf_ba {M : Model} {a : Addr} {b : Array UInt8} {Q : Option (Array UInt8) → Shared → Prop} (ha : s.heap.get? a = some (baObj b)) (h : Q (some b) s) : wpAny M A (Builtin.Bytes.buffer? "bytes.__new__" (.ref a) true) Q E s := by
  have hT : s.TypeIs (.ref a) "bytearray" := ⟨_, ha, rfl⟩
  unfold Builtin.Bytes.buffer?
  refine wpAny_bind (wpAny_specialOf hT ba_buffer ?_)
  dsimp only
  refine wpAny_bind ?_
  unfold Builtin.Bytes.slotIsOwn
  refine wpAny_bind (wpAny_specialOf hT ba_buffer ?_)
  dsimp only
  rw [ends_buf, drop_buf]
  refine wpAny_isInstance hT sub_ba_self ?_
  refine bm_if_false rfl ?_
  refine wpAny_bind (wpAny_specialOf hT ba_buffer ?_)
  refine wpAny_bind (own_ba hT ?_)
  refine bm_if_false rfl ?_
  unfold Builtin.Bytes.payload Builtin.Bytes.payload?
  exact wpAny_bind (wpAny_bind (wpAny_bind (wpAny_load ha (wpAny_pure (wpAny_pure (wpAny_pure h))))))
theorem bytes_new {a : Addr} {b : Array UInt8} {Q : Value → Shared → Prop} (ha : s.heap.get? a = some (baObj b)) (hb : b.size ≤ 1000)
    (hQ : ∀ t k, Q (.bytes b t) { s with toks := k }) :
    codeAny (model prog w) A (.call (.builtin "bytes.__new__") ⟨[.type "bytes", .ref a], []⟩) (wants Q E) s := by
  refine codeAny_of_tree ?_
  show wpAny _ A.in1 (do checkBuiltinCall "bytes.__new__" ⟨[.type "bytes", .ref a], []⟩; again (.builtin "bytes.__new__" ⟨[.type "bytes", .ref a], []⟩)) _ _ s
  refine wpAny_bind (wpAny_of_eq (F.bm_newCall _) (wpAny_pure ⟨plainId_quiet F.bm_plain _, codeAny_builtin F.bm_entry ?_⟩))
  rw [Around.under_plainId F.bm_plain _]
  have hT : s.TypeIs (.ref a) "bytearray" := ⟨_, ha, rfl⟩
  unfold Builtin.«bytes.__new__»
  refine wpAny_bind (wpAny_of_eq (a := true) rfl ?_)
  refine bm_if_false rfl ?_
  refine wpAny_bind (wpAny_of_eq F.bm_sub ?_)
  refine bm_if_false rfl ?_
  refine wpAny_bind (wpAny_of_eq (F.bm_bind _) ?_)
  refine wpAny_bind (wpAny_of_eq (a := ()) rfl ?_)
  refine wpAny_bind (wpAny_of_eq (a := ()) rfl ?_)
  refine bm_if_false rfl ?_
  refine wpAny_bind (wpAny_specialOf hT no_ba_bytes ?_)
  refine wpAny_bind (wpAny_bind ?_)
  show wpAny _ _ (load a >>= _) _ _ _
  refine wpAny_bind (wpAny_load ha ?_)
  refine wpAny_pure (wpAny_pure ?_)
  refine bm_if_false rfl ?_
  refine wpAny_bind (wpAny_specialOf hT no_ba_index ?_)
  refine bm_if_true rfl ?_
  first
    | show wpAny _ _ (Builtin.Bytes.buffer? "bytes.__new__" (.ref a) true >>= _) _ _ _
    | (refine wpAny_bind ?_; show wpAny _ _ (Builtin.Bytes.buffer? "bytes.__new__" (.ref a) true >>= _) _ _ _)
  refine wpAny_bind (buf_ba ha ?_)
  dsimp only
  refine wpAny_bind (wpAny_rule ?_)
  refine wpAny_bind (wpAny_mkBytes ?_ (by rw [sizeLine_eq]; omega))
  show wpAny _ _ (if (Value.type "bytes" == Value.type "bytes") = true then _ else _) _ _ _
  refine bm_if_true (by decide) ?_
  exact wpAny_pure (hQ _ _)
theorem bytes_of_ba {a : Addr} {b : Array UInt8} {Q : Value → Shared → Prop} (ha : s.heap.get? a = some (baObj b)) (hb : b.size ≤ 1000) (hQ : ∀ t k, Q (.bytes b t) { s with toks := k }) :
    wpAny (model prog w) A (call (.type "bytes") [.ref a]) Q E s := by
  refine callType_codes (Q₁ := fun obj s₁ => s₁.TypeIs obj "bytes" ∧ Q obj s₁) F.bm_called (F.bm_typeCall _) F.entry_object_init
    (bytes_new ha hb fun t k => ⟨PySem.W.typeIs_bytes _ _ _, hQ t k⟩) fun obj s₁ h₁ => ?_
  exact ⟨h₁.1, F.args_object_init_2 obj _, object_init_meets F.bm_called.init.lookup F.bm_called.made (by decide) prog w A.in1 _ s₁ ⟨h₁.1, rfl, h₁.2⟩⟩
end
end Mine
end
section
open Lean Meta Elab PySem PySem.W PyProof.Rows PySem.Calls
set_option maxRecDepth 100000
set_option maxHeartbeats 0
set_option Elab.async false
set_option linter.unusedVariables false
namespace Mine
theorem fillV : (fun (_ : Params → Frag) (_ : OpenLaw) => True) K rw1 := by k_fill; trivial
theorem kw27 : True := by
  k_with_none
  k_with "c_enter" => (refine' code_def ?k1 ?k2 ?k3 ?k4 ?k5 ?kA ?kF ?kK ?k6 ?k7 ?zk8 ?zk9 ?kB ?_ ?c2 ?c3 ?c4 ?c5; (case kA => exact rfl); (case kF => exact rfl); (case kK => assumption); (case k1 => k_asm); (case k2 => k_asm); (case k3 => k_asm); (case k4 => k_asm); (case k5 => k_asm); (case k6 => k_is); (case k7 => k_is); (case zk8 => ktr_room); (case zk9 => first | exact BindsTo.of_eq rfl | exact binds_K (by k_in) rfl (by k_is) rfl rfl rfl | fail "c_enter: the arguments"); (case c5 => decide); (case kB => exact locs rfl); (case c2 => exact rfl); (case c3 => exact rfl); (case c4 => exact rfl); k_whole; intro zg' zL' zh' zFG' zF' zN' zB' zX' zT'; (try dsimp only); (try k_fold))
  k_with "compareOp In str str" => (k_here; (first | with_reducible refine in_ch (by with_reducible assumption) ?_ | with_reducible refine in_nil ?_ | with_reducible refine in_b (b := false) (by decide +kernel) ?_ | with_reducible refine in_b (b := true) (by decide +kernel) ?_))
  k_with "compareOp NotIn str str" => (k_here; (first | with_reducible refine notin_ch (by with_reducible assumption) ?_ | with_reducible refine notin_nil ?_))
  k_with "compareOp Eq str str" => (k_here; (first | with_reducible refine eq_b (by with_reducible assumption) ?_ | with_reducible refine eq_b (b := false) (by decide +kernel) ?_ | with_reducible refine eq_b (b := true) (by decide +kernel) ?_))
  k_with "truthy str" => (k_here; (first | with_reducible refine truthy_ch ?_ | with_reducible refine truthy_nil ?_ | with_reducible refine truthy_p (by with_reducible assumption) (by with_reducible assumption) ?_); intro zk9)
  k_with "s_enter" => (refine' code_defS ?k1 ?k2 ?k3 ?k4 ?k5 ?XB ?TB ?D ?T0 ?kA ?k6 ?k7 ?zk8 ?zk9 ?kB ?_ ?cK ?c2 ?c3 ?c4 ?c5; (case kA => exact rfl); (case k2 => k_asm); (case k1 => k_asm); (case XB => exact Gd.x (by assumption)); (case TB => exact Gd.t (by assumption)); (case D => assumption); (case T0 => exact KtsTurn.refl); (case k3 => k_asm); (case k4 => k_asm); (case k5 => k_asm); (case k6 => k_is); (case k7 => k_is); (case zk8 => ktr_room); (case zk9 => first | exact BindsTo.of_eq rfl | exact binds_K (by k_in) rfl (by k_is) rfl rfl rfl | fail "s_enter: the arguments"); (case kB => exact locs rfl); (case cK => first | exact rfl | assumption); (case c2 => exact rfl); (case c3 => exact rfl); (case c4 => exact rfl); (case c5 => decide); k_whole; intro zg' zL' zh' zFG' zF' zN' zB' zX' zT' zD'; (try dsimp only); (try k_fold))
  trivial
theorem chars_of {x : Str} {i : Nat} {v : Value} (h : SignAt x i v) : ∃ c u, x.cps.toList[i]? = some c ∧ v = .str ⟨#[c]⟩ u := by
  obtain ⟨c, u, hc, hv⟩ := h
  exact ⟨c, u, by rw [← hc, Array.getElem?_toList], hv⟩
theorem is_int_ref {M : Model} {A : Around} {E : Value → Shared → Prop} {s : Shared} {Q : Value → Shared → Prop} {i : Int} {t : Tok} {b : Addr} (h : Q (.bool false) s) : wpAny M A (compareOp .Is (.int i t) (.ref b)) Q E s :=
  wpAny_is_other (by rfl) (by intro e; cases e) h
theorem in_chS {M : Program} {w : World} {A : Around} {E : Value → Shared → Prop} {s : Shared} {Q : Value → Shared → Prop} {c : Nat} {Y : Str} {t t' : Tok} (h1 : Y.cps.toList.contains c = true → Q (.bool true) s) (h2 : Y.cps.toList.contains c = false → Q (.bool false) s) :
    wpAny (model M w) A (compareOp .In (.str ⟨#[c]⟩ t) (.str Y t')) Q E s := by
  cases hb : Y.cps.toList.contains c
  · exact in_ch hb (h2 hb)
  · exact in_ch hb (h1 hb)
section
variable {prog : Program} {w : World} {A : Around} {E : Value → Shared → Prop} {s : Shared} {h₀ : Heap} {L : Addr} {S : Nat} {m : Str → Option Value} {news : List (Addr × Obj)} {n : Nat}
end
theorem nil_app (c : Nat) : (Str.ofString "" ++ ⟨#[c]⟩ : Str) = ⟨#[c]⟩ := by
  rw [← nilE, snoc]
  rfl
theorem small_c {n c : Int} (h0 : 0 ≤ n) (h1 : n ≤ 1000) (hc : 0 < c) (hc2 : c ≤ 1000) (z : Builtin.Range.rangeSize 0 n c = k) (z0 : 0 ≤ k) (z1 : k ≤ 1000) : Builtin.Range.small 0 n c = true := by
  unfold Builtin.Range.small
  rw [z]
  simp only [Builtin.Range.rangeFitsLong, Bool.and_eq_true, Bool.or_eq_true, decide_eq_true_eq, beq_iff_eq, if_pos (show c > 0 from hc)]
  refine ⟨⟨⟨⟨⟨?_, ?_⟩, ⟨?_, ?_⟩⟩, ⟨?_, ?_⟩⟩, ⟨?_, ?_⟩⟩, .inr ⟨?_, ?_⟩⟩ <;> omega
section
variable {prog : Program} {w : World} {A : Around} {E : Value → Shared → Prop} {s : Shared} {h₀ : Heap} {m : Str → Option Value} {news : List (Addr × Obj)} {env : Env} {x : Str} {body : List Stmt} {Q : Flow → Shared → Prop}
theorem range_at {r : Addr} {n k : Nat} {c : Nat} {t u v : Tok} (J : Nat → (Str → Option Value) → List (Addr × Obj) → Prop) (hh : A.handled = none)
    (hr : IsRange s.heap r 0 (n : Int) (c : Int) t u v) (hn : n ≤ 1000) (hc : 0 < c) (hc2 : c ≤ 1000) (hk : Builtin.Range.rangeSize 0 (n : Int) (c : Int) = (k : Int)) (hk2 : k ≤ 1000)
    (F : Fr h₀ env.locals s.heap m) (N : News h₀ env.locals s.heap news) (hj : J 0 m news)
    (turn : ∀ (I : Nat) i t m₁ news₁ h tk own, i < k → (∀ p ∈ own, p.1 = I) → (∀ p ∈ news₁, p.1 ≠ I) → J i m₁ news₁ → Fr h₀ env.locals h (fun y => if y = x then some (.int ((i * c : Nat) : Int) t) else m₁ y) → News h₀ env.locals h (own ++ news₁) →
      wpAny (model prog w) A (execs body env) (fun f s' => LoopStepU h₀ env.locals [I] own (J (i + 1)) { s with heap := h, toks := tk } f s') E { s with heap := h, toks := tk })
    (done : ∀ m₁ news₁ h tk, J k m₁ news₁ → Fr h₀ env.locals h m₁ → News h₀ env.locals h news₁ → Q .next { s with heap := h, toks := tk }) :
    wpAny (model prog w) A (pyIter (.ref r)) (fun it s₂ => LoopAtV prog w A h₀ env x body Q E it s₂) E s := by
  refine wpAny_pyIter_range hr (small_c (by omega) (by omega) (by omega) (by omega) hk (by omega) (by omega)) ?_
  have W := Walks.range (prog := prog) (w := w) hh s.heap.objs.size 0 (c : Int) k
  have hI : (s.heap.push { cls := .type "range_iterator", data := .fields #[rawInt 0, rawInt (Builtin.Range.rangeSize 0 (n : Int) (c : Int)), rawInt (c : Int)] }).get? s.heap.objs.size = some { cls := .type "range_iterator", data := .fields #[rawInt 0, rawInt (Builtin.Range.rangeSize 0 (n : Int) (c : Int)), rawInt (c : Int)] } := Heap.get?_push_size _ rfl
  refine ⟨s.heap.objs.size, [s.heap.objs.size], [s.heap.objs.size], k, _, _, m, news, J, rfl, W, ?_, ?_, ?_, ?_, F.push _, (fun p hp => ⟨Heap.get?_push_of_some _ (N p hp).1, (N p hp).2⟩), hj, ?_, ?_⟩
  · intro hm
    exact absurd F.ns.lt ((List.mem_singleton.mp hm) ▸ Nat.lt_irrefl _)
  · intro b hb
    rw [List.mem_singleton.mp hb]
    exact next_is_new F
  · intro p hp hm
    exact absurd (Heap.lt_size (N p hp).1) ((List.mem_singleton.mp hm) ▸ Nat.lt_irrefl _)
  · show IsRangeIter _ _ _ _ _
    rw [hk] at hI
    simpa [IsRangeIter, hk] using hI
  · rintro i v m₁ news₁ s₁ own ⟨hh', tk', rfl⟩ hin ⟨t, rfl⟩ hJ hoff hown _ _ _ F₁ N₁
    have e : (0 : Int) + (i : Int) * (c : Int) = ((i * c : Nat) : Int) := by push_cast; omega
    rw [e] at F₁
    refine wpAny_mono (turn s.heap.objs.size i t m₁ news₁ hh' tk' own hin (fun p hp => List.mem_singleton.mp (hown p hp)) (fun p hp h => hoff p hp (List.mem_singleton.mpr h)) hJ F₁ N₁) (fun f s₂ p => ?_) fun _ _ e => e
    exact LoopStepV.ofU p
  · rintro h' tk m' news' F' N' _ hJ
    exact done m' news' h' tk hJ F' N'
end
def RangeIs (h₀ : Heap) (L : Addr) (m : Str → Option Value) (news : List (Addr × Obj)) (n c : Int) (s : Shared) (xv : Value) (s₁ : Shared) : Prop :=
  ∃ r t u v h tk, xv = .ref r ∧ s₁ = { s with heap := h, toks := tk } ∧ IsRange h r 0 n c t u v ∧ Fr h₀ L h m ∧ News h₀ L h news
end Mine
end
section
open Lean Meta Elab PySem PySem.W PyProof.Rows
set_option maxRecDepth 100000
set_option maxHeartbeats 0
set_option Elab.async false
set_option linter.unusedVariables false
namespace Mine
theorem fillY : (fun (_ : Params → Frag) (_ : OpenLaw) => True) K rw1 := by k_fill; trivial
theorem kw28 : True := by
  k_with_none
  k_with "c_enter" => (refine' code_def ?k1 ?k2 ?k3 ?k4 ?k5 ?kA ?kF ?kK ?k6 ?k7 ?zk8 ?zk9 ?kB ?_ ?c2 ?c3 ?c4 ?c5; (case kA => exact rfl); (case kF => exact rfl); (case kK => assumption); (case k1 => k_asm); (case k2 => k_asm); (case k3 => k_asm); (case k4 => k_asm); (case k5 => k_asm); (case k6 => k_is); (case k7 => k_is); (case zk8 => ktr_room); (case zk9 => first | exact BindsTo.of_eq rfl | exact binds_K (by k_in) rfl (by k_is) rfl rfl rfl | fail "c_enter: the arguments"); (case c5 => decide); (case kB => exact locs rfl); (case c2 => exact rfl); (case c3 => exact rfl); (case c4 => exact rfl); k_whole; intro zg' zL' zh' zFG' zF' zN' zB' zX' zT'; (try dsimp only); (try k_fold))
  k_with "compareOp In str str" => (k_here; (first | with_reducible refine in_ch (by with_reducible assumption) ?_ | with_reducible refine in_nil ?_ | with_reducible refine in_b (b := false) (by decide +kernel) ?_ | with_reducible refine in_b (b := true) (by decide +kernel) ?_))
  k_with "compareOp NotIn str str" => (k_here; (first | with_reducible refine notin_ch (by with_reducible assumption) ?_ | with_reducible refine notin_nil ?_))
  k_with "compareOp Eq str str" => (k_here; (first | with_reducible refine eq_b (by with_reducible assumption) ?_ | with_reducible refine eq_b (b := false) (by decide +kernel) ?_ | with_reducible refine eq_b (b := true) (by decide +kernel) ?_))
  k_with "truthy str" => (k_here; (first | with_reducible refine truthy_ch ?_ | with_reducible refine truthy_nil ?_ | with_reducible refine truthy_p (by with_reducible assumption) (by with_reducible assumption) ?_); intro zk9)
  k_with "s_enter" => (refine' code_defS ?k1 ?k2 ?k3 ?k4 ?k5 ?XB ?TB ?D ?T0 ?kA ?k6 ?k7 ?zk8 ?zk9 ?kB ?_ ?cK ?c2 ?c3 ?c4 ?c5; (case kA => exact rfl); (case k2 => k_asm); (case k1 => k_asm); (case XB => exact Gd.x (by assumption)); (case TB => exact Gd.t (by assumption)); (case D => assumption); (case T0 => exact KtsTurn.refl); (case k3 => k_asm); (case k4 => k_asm); (case k5 => k_asm); (case k6 => k_is); (case k7 => k_is); (case zk8 => ktr_room); (case zk9 => first | exact BindsTo.of_eq rfl | exact binds_K (by k_in) rfl (by k_is) rfl rfl rfl | fail "s_enter: the arguments"); (case kB => exact locs rfl); (case cK => first | exact rfl | assumption); (case c2 => exact rfl); (case c3 => exact rfl); (case c4 => exact rfl); (case c5 => decide); k_whole; intro zg' zL' zh' zFG' zF' zN' zB' zX' zT' zD'; (try dsimp only); (try k_fold))
  trivial
abbrev bytesOf (l : List Nat) : Array UInt8 := (l.map Nat.toUInt8).toArray
theorem bytesOf_size (l : List Nat) : (bytesOf l).size = l.length := by simp
theorem toU_toNat {n : Nat} (h : n < 256) : (n.toUInt8).toNat = n := by
  show n % 256 = n
  omega
theorem bInts_of {l : List Nat} (h : ∀ c ∈ l, c < 256) : KBw.bInts (bytesOf l) = l.map fun c : Nat => (c : Int) := by
  unfold bytesOf
  rw [KBw.ints_list, List.map_map]
  refine List.map_congr_left fun c hc => ?_
  show ((c.toUInt8.toNat : Nat) : Int) = c
  rw [toU_toNat (h c hc)]
theorem set_bytes (l : List Nat) (k v : Nat) : (bytesOf l).setIfInBounds k v.toUInt8 = bytesOf (l.set k v) := by
  apply Array.toList_inj.mp
  rw [Array.toList_setIfInBounds]
  simp [List.map_set]
section
variable {prog : Program} {w : World} {A : Around} {E : Value → Shared → Prop} {s : Shared} {h₀ : Heap} {L : Addr} {S : Nat} {m : Str → Option Value} {news : List (Addr × Obj)}
theorem ba_setN {l : List Nat} {k v : Nat} {ki vi : Int} {u u' : Tok} {Q : Unit → Shared → Prop} (F : Fr h₀ L s.heap m) (N : News h₀ L s.heap ((S, baObj (bytesOf l)) :: news)) (ho : ∀ p ∈ news, p.1 ≠ S)
    (ek : ki = (k : Nat)) (ev : vi = (v : Nat)) (hb : l.length ≤ 1000) (hk : k < l.length) (hv : v < 256)
    (h : ∀ h', Fr h₀ L h' m → News h₀ L h' ((S, baObj (bytesOf (l.set k v))) :: news) → Q () { s with heap := h' }) :
    wpAny (model prog w) A (setItem (.ref S) (.int ki u) (.int vi u')) Q E s := by
  subst ek ev
  have z := N _ List.mem_cons_self
  refine ba_set z.1 (by rw [bytesOf_size]; exact hb) (by rw [bytesOf_size]; exact hk) hv fun h' g' s' => ?_
  rw [set_bytes] at g'
  exact h h' (F.change s' z.2.1 z.2.2) (N.setHead ho s' g')
theorem bytes_item {value slice : PySem.Expr} {l : List Nat} {k : Nat} {ki : Int} {t u : Tok} {Q : Value → Shared → Prop} (hl : ∀ c ∈ l, c < 256) (ek : ki = (k : Nat)) (hk : k < l.length) (hz : l.length ≤ 1000)
    (h : ∀ t' tk, Q (.int (l.getD k 0 : Nat) t') { s with toks := tk })
    (hs : subscripted slice false (.bytes (bytesOf l) t) (.int ki u) = operate [.bytes (bytesOf l) t, .int ki u] (getItem (.bytes (bytesOf l) t) (.int ki u)) := by with_unfolding_all rfl)
    (ht : ∀ r, letTemporaryGo value (.bytes (bytesOf l) t) r = pure () := by intro _; with_unfolding_all rfl) :
    wpAny (model prog w) A (subscriptTail value slice (.bytes (bytesOf l) t) (.int ki u)) Q E s := by
  subst ek
  have e : (l.map fun c : Nat => (c : Int)).getD k 0 = ((l.getD k 0 : Nat) : Int) := by
    rw [List.getD_eq_getElem?_getD, List.getD_eq_getElem?_getD, List.getElem?_map]
    cases l[k]? <;> rfl
  refine KBw.item_K (bInts_of hl) (by rw [List.length_map]; omega) (by omega) (by rw [List.length_map]; omega) (fun t' tk _ _ => ?_) hs ht
  rw [show ((k : Nat) : Int).toNat = k by omega, e]
  exact h t' tk
end
noncomputable def bsF : Stmt := litOf (stm f_byteswap_b 1) (by conv => rhs; whnf)
noncomputable def bsO : List Stmt := litOf (match stm f_byteswap_b 1 with | .For _ _ b _ _ => b | _ => []) (by conv => rhs; whnf)
noncomputable def bsI : Stmt := litOf (stm bsO 0) (by conv => rhs; whnf)
noncomputable def bsB : List Stmt := litOf (match bsI with | .For _ _ b _ _ => b | _ => []) (by conv => rhs; whnf)
theorem kw29 : True := by
  k_with "subscriptTail Name BinOp bytes int" => (k_here; (with_unfolding_all refine' bytes_item ?k0 ?k1 ?k2 ?kz ?_ ?k3 ?k4; (case k0 => assumption); (case k1 => first | assumption | rfl | (push_cast; omega)); (case k2 => assumption); (case kz => assumption); (case k3 => with_unfolding_all rfl); (case k4 => intro _; with_unfolding_all rfl); k_whole); intro zt9 ztk9)
  k_with "setItem ref int" => (k_here; k_dflt (refine' ba_setN ?rF ?rN ?ro ?ek ?ev ?hb ?hk ?hv ?_; (case rF => k_asm); (case rN => k_asm); (case ro => assumption); (case ek => assumption); (case ev => rfl); (case hb => omega); (case hk => assumption); (case hv => assumption); k_whole); intro zh9 zF9 zN9; (try dsimp only))
  trivial
section
variable {w : World} {mean : ExcName → Option Value} {mg mb : Str → Option Value} {dp un : Nat} {gd : Option (List Code)} {outer : List Env} {A₀ : Around} {base h₀ : Heap} {L : Addr} {m : Str → Option Value} {rest news : List (Addr × Obj)} {s : Shared} {Q : Flow → Shared → Prop} {E : Value → Shared → Prop}
theorem bs_turn {l st : List Nat} {ri wd j : Nat} {S : Nat} {u ui tw tb : Tok} {m₀ : Str → Option Value} (hl : ∀ c ∈ l, c < 256) (hz : l.length ≤ 1000) (hst : st.length = l.length) (hj : j < wd) (hr : ri + wd ≤ l.length) (hk2 : ri + j < l.length) (hrest : ∀ p ∈ news, p.1 ≠ S)
    (B : Below A₀ base outer h₀) (X : (K w.params).In h₀) (T : Top q loose mean mg mb h₀)
    (F : Fr h₀ L s.heap (fun y => if y = "j" then some (.int (j : Nat) u) else if y = "i" then some (.int (ri : Nat) ui) else if y = "width" then some (.int (wd : Nat) tw) else if y = "data" then some (.bytes (bytesOf l) tb) else if y = "swapped_data" then some (.ref S) else m₀ y)) (N : News h₀ L s.heap ((S, baObj (bytesOf st)) :: news))
    (hd : dp + 8 < recursionLimit) (hu : un + 60 < cLine)
    (hret : ∀ h' tk', Fr h₀ L h' (fun y => if y = "j" then some (.int (j : Nat) u) else if y = "i" then some (.int (ri : Nat) ui) else if y = "width" then some (.int (wd : Nat) tw) else if y = "data" then some (.bytes (bytesOf l) tb) else if y = "swapped_data" then some (.ref S) else m₀ y) → News h₀ L h' ((S, baObj (bytesOf (st.set (ri + wd - 1 - j) (l.getD (ri + j) 0)))) :: news) → Q .next { s with heap := h', toks := tk' }) :
    wpAny (model pw w) (ktrTop dp un gd "_byteswap" f_byteswap_s L 46 (.ref 45) [] outer) (execs bsB (envOf "_byteswap" f_byteswap_s L 46 (.ref 45))) Q E s := by
  have ek : ((ri : Nat) : Int) + ((j : Nat) : Int) = ((ri + j : Nat) : Int) := by omega
  have hv : l.getD (ri + j) 0 < 256 := by
    rw [List.getD_eq_getElem?_getD, List.getElem?_eq_getElem hk2]
    exact hl _ (List.getElem_mem hk2)
  have es : ((ri : Nat) : Int) + ((wd : Nat) : Int) - 1 - ((j : Nat) : Int) = ((ri + wd - 1 - j : Nat) : Int) := by omega
  have hk3 : ri + wd - 1 - j < st.length := by omega
  unfold bsB
  k_steps
  all_goals exact hret _ _ (by k_asm) (by k_asm)
end
end Mine
end
section
open Lean Meta Elab PySem PySem.W PyProof.Rows
set_option maxRecDepth 100000
set_option maxHeartbeats 0
set_option Elab.async false
set_option linter.unusedVariables false
namespace Mine
theorem fillZ : (fun (_ : Params → Frag) (_ : OpenLaw) => True) K rw1 := by k_fill; trivial
theorem kw30 : True := by
  k_with_none
  k_with "c_enter" => (refine' code_def ?k1 ?k2 ?k3 ?k4 ?k5 ?kA ?kF ?kK ?k6 ?k7 ?zk8 ?zk9 ?kB ?_ ?c2 ?c3 ?c4 ?c5; (case kA => exact rfl); (case kF => exact rfl); (case kK => assumption); (case k1 => k_asm); (case k2 => k_asm); (case k3 => k_asm); (case k4 => k_asm); (case k5 => k_asm); (case k6 => k_is); (case k7 => k_is); (case zk8 => ktr_room); (case zk9 => first | exact BindsTo.of_eq rfl | exact binds_K (by k_in) rfl (by k_is) rfl rfl rfl | fail "c_enter: the arguments"); (case c5 => decide); (case kB => exact locs rfl); (case c2 => exact rfl); (case c3 => exact rfl); (case c4 => exact rfl); k_whole; intro zg' zL' zh' zFG' zF' zN' zB' zX' zT'; (try dsimp only); (try k_fold))
  k_with "compareOp In str str" => (k_here; (first | with_reducible refine in_ch (by with_reducible assumption) ?_ | with_reducible refine in_nil ?_ | with_reducible refine in_b (b := false) (by decide +kernel) ?_ | with_reducible refine in_b (b := true) (by decide +kernel) ?_))
  k_with "compareOp NotIn str str" => (k_here; (first | with_reducible refine notin_ch (by with_reducible assumption) ?_ | with_reducible refine notin_nil ?_))
  k_with "compareOp Eq str str" => (k_here; (first | with_reducible refine eq_b (by with_reducible assumption) ?_ | with_reducible refine eq_b (b := false) (by decide +kernel) ?_ | with_reducible refine eq_b (b := true) (by decide +kernel) ?_))
  k_with "truthy str" => (k_here; (first | with_reducible refine truthy_ch ?_ | with_reducible refine truthy_nil ?_ | with_reducible refine truthy_p (by with_reducible assumption) (by with_reducible assumption) ?_); intro zk9)
  k_with "s_enter" => (refine' code_defS ?k1 ?k2 ?k3 ?k4 ?k5 ?XB ?TB ?D ?T0 ?kA ?k6 ?k7 ?zk8 ?zk9 ?kB ?_ ?cK ?c2 ?c3 ?c4 ?c5; (case kA => exact rfl); (case k2 => k_asm); (case k1 => k_asm); (case XB => exact Gd.x (by assumption)); (case TB => exact Gd.t (by assumption)); (case D => assumption); (case T0 => exact KtsTurn.refl); (case k3 => k_asm); (case k4 => k_asm); (case k5 => k_asm); (case k6 => k_is); (case k7 => k_is); (case zk8 => ktr_room); (case zk9 => first | exact BindsTo.of_eq rfl | exact binds_K (by k_in) rfl (by k_is) rfl rfl rfl | fail "s_enter: the arguments"); (case kB => exact locs rfl); (case cK => first | exact rfl | assumption); (case c2 => exact rfl); (case c3 => exact rfl); (case c4 => exact rfl); (case c5 => decide); k_whole; intro zg' zL' zh' zFG' zF' zN' zB' zX' zT' zD'; (try dsimp only); (try k_fold))
  trivial
def stL (l : List Nat) (wd r j : Nat) : List Nat := (List.range l.length).map fun k => if k / wd < r ∨ (k / wd = r ∧ wd - j ≤ k % wd) then l.getD (k / wd * wd + (wd - 1 - k % wd)) 0 else 0
def swp (l : List Nat) (wd : Nat) : List Nat := (List.range l.length).map fun k => l.getD (k / wd * wd + (wd - 1 - k % wd)) 0
theorem stL_len (l : List Nat) (wd r j : Nat) : (stL l wd r j).length = l.length := by simp [stL]
theorem swp_len (l : List Nat) (wd : Nat) : (swp l wd).length = l.length := by simp [swp]
theorem stL_0 (l : List Nat) (wd : Nat) (hw : 0 < wd) : stL l wd 0 0 = List.replicate l.length 0 := by
  apply List.ext_getElem
  · simp [stL]
  · intro k h1 h2
    simp only [stL, List.getElem_map, List.getElem_range, List.getElem_replicate]
    have h3 := Nat.mod_lt k hw
    generalize k / wd = q at *
    generalize k % wd = t at *
    rw [if_neg (by omega)]
theorem stL_row (l : List Nat) (wd r : Nat) (hw : 0 < wd) : stL l wd r wd = stL l wd (r + 1) 0 := by
  unfold stL
  refine List.map_congr_left fun k _ => ?_
  have := Nat.mod_lt k hw
  by_cases h : k / wd < r ∨ (k / wd = r ∧ wd - wd ≤ k % wd)
  · rw [if_pos h, if_pos (by omega)]
  · rw [if_neg h, if_neg (by omega)]
theorem stL_end (l : List Nat) (wd R : Nat) (hw : 0 < wd) (hR : l.length = R * wd) : stL l wd R 0 = swp l wd := by
  unfold stL swp
  refine List.map_congr_left fun k hk => ?_
  rw [if_pos]
  left
  rw [List.mem_range, hR] at hk
  exact Nat.div_lt_of_lt_mul (by rw [Nat.mul_comm]; exact hk)
theorem divmod {wd r j : Nat} (hj : j < wd) : (r * wd + wd - 1 - j) / wd = r ∧ (r * wd + wd - 1 - j) % wd = wd - 1 - j := by
  have e : r * wd + wd - 1 - j = (wd - 1 - j) + wd * r := by rw [Nat.mul_comm]; omega
  rw [e]
  constructor
  · rw [Nat.add_mul_div_left _ _ (by omega), Nat.div_eq_of_lt (by omega)]; omega
  · rw [Nat.add_mul_mod_self_left, Nat.mod_eq_of_lt (by omega)]
theorem stL_step (l : List Nat) {wd r j R : Nat} (hj : j < wd) (hr : r < R) (hR : l.length = R * wd) : (stL l wd r j).set (r * wd + wd - 1 - j) (l.getD (r * wd + j) 0) = stL l wd r (j + 1) := by
  obtain ⟨d1, d2⟩ := divmod (r := r) hj
  apply List.ext_getElem
  · simp [stL]
  · intro k h1 h2
    rw [List.getElem_set]
    simp only [stL, List.getElem_map, List.getElem_range]
    by_cases e : r * wd + wd - 1 - j = k
    · rw [if_pos e, ← e, d1, d2, if_pos (by omega)]
      congr 1
      omega
    · rw [if_neg e]
      have hk := Nat.div_add_mod k wd
      have hm := Nat.mod_lt k (show wd > 0 by omega)
      have ne : ¬ (k / wd = r ∧ k % wd = wd - 1 - j) := by
        rintro ⟨a, b⟩
        apply e
        rw [a, b, Nat.mul_comm] at hk
        omega
      by_cases h : k / wd < r ∨ (k / wd = r ∧ wd - j ≤ k % wd)
      · rw [if_pos h, if_pos (by omega)]
      · rw [if_neg h, if_neg (by omega)]
theorem swp_rev (l : List Nat) : swp l l.length = l.reverse := by
  apply List.ext_getElem
  · simp [swp]
  · intro k h1 h2
    have hk : k < l.length := by simpa [swp] using h1
    simp only [swp, List.getElem_map, List.getElem_range, List.getElem_reverse]
    rw [Nat.div_eq_of_lt hk, Nat.mod_eq_of_lt hk, Nat.zero_mul, Nat.zero_add, List.getD_eq_getElem?_getD, List.getElem?_eq_getElem (by omega)]
    rfl
def BsI (l : List Nat) (wd r : Nat) (S : Nat) (tw tb ui : Tok) (rest : List (Addr × Obj)) (j : Nat) (m₁ : Str → Option Value) (news₁ : List (Addr × Obj)) : Prop :=
  news₁ = (S, baObj (bytesOf (stL l wd r j))) :: rest ∧ m₁ "i" = some (.int ((r * wd : Nat) : Int) ui) ∧ m₁ "width" = some (.int (wd : Nat) tw) ∧ m₁ "data" = some (.bytes (bytesOf l) tb) ∧ m₁ "swapped_data" = some (.ref S)
def BsO (l : List Nat) (wd : Nat) (S : Nat) (tw tb : Tok) (rest : List (Addr × Obj)) (r : Nat) (m₁ : Str → Option Value) (news₁ : List (Addr × Obj)) : Prop :=
  news₁ = (S, baObj (bytesOf (stL l wd r 0))) :: rest ∧ m₁ "width" = some (.int (wd : Nat) tw) ∧ m₁ "data" = some (.bytes (bytesOf l) tb) ∧ m₁ "swapped_data" = some (.ref S)
theorem fr_norm5 {h₀ h : Heap} {L : Addr} {m : Str → Option Value} {v₁ v₂ v₃ v₄ v₅ : Value} (F : Fr h₀ L h (fun (y : Str) => if y = ("j" : Str) then some v₁ else m y)) (a : m "i" = some v₂) (b : m "width" = some v₃) (c : m "data" = some v₄) (d : m "swapped_data" = some v₅) :
    Fr h₀ L h (fun (y : Str) => if y = ("j" : Str) then some v₁ else if y = ("i" : Str) then some v₂ else if y = ("width" : Str) then some v₃ else if y = ("data" : Str) then some v₄ else if y = ("swapped_data" : Str) then some v₅ else m y) := by
  have e : (fun (y : Str) => if y = ("j" : Str) then some v₁ else if y = ("i" : Str) then some v₂ else if y = ("width" : Str) then some v₃ else if y = ("data" : Str) then some v₄ else if y = ("swapped_data" : Str) then some v₅ else m y) = (fun (y : Str) => if y = ("j" : Str) then some v₁ else m y) := by
    funext y
    split
    · rfl
    · split
      · rename_i h; rw [h, a]
      · split
        · rename_i h; rw [h, b]
        · split
          · rename_i h; rw [h, c]
          · split
            · rename_i h; rw [h, d]
            · rfl
  rw [e]; exact F
noncomputable def bsJ : PySem.Expr := litOf (match bsI with | .For _ i _ _ _ => i | _ => .Constant .none 0 default) (by conv => rhs; whnf)
noncomputable def bsK : PySem.Expr := litOf (match bsF with | .For _ i _ _ _ => i | _ => .Constant .none 0 default) (by conv => rhs; whnf)
section
variable {w : World} {mean : ExcName → Option Value} {mg mb : Str → Option Value} {dp un : Nat} {gd : Option (List Code)} {outer : List Env} {A₀ : Around} {base h₀ : Heap} {L : Addr} {m : Str → Option Value} {rest news : List (Addr × Obj)} {s : Shared} {Q : Flow → Shared → Prop} {E : Value → Shared → Prop}
theorem bs_inner {l : List Nat} {wd r R : Nat} {S : Nat} {tw tb ui u : Tok} (hl : ∀ c ∈ l, c < 256) (hz : l.length ≤ 1000) (hw : 0 < wd) (hw2 : wd ≤ 1000) (hr : r < R) (hR : l.length = R * wd) (hrest : ∀ p ∈ rest, p.1 ≠ S)
    (B : Below A₀ base outer h₀) (F : Fr h₀ L s.heap m) (X : (K w.params).In h₀) (N : News h₀ L s.heap ((S, baObj (bytesOf (stL l wd r 0))) :: rest)) (T : Top q loose mean mg mb h₀)
    (m0 : m "i" = some (.int ((r * wd : Nat) : Int) ui)) (m1 : m "width" = some (.int (wd : Nat) tw)) (m2 : m "data" = some (.bytes (bytesOf l) tb)) (m3 : m "swapped_data" = some (.ref S))
    (hd : dp + 8 < recursionLimit) (hu : un + 60 < cLine)
    (hret : ∀ (m' : Str → Option Value) h' tk', m' "width" = some (.int (wd : Nat) tw) → m' "data" = some (.bytes (bytesOf l) tb) → m' "swapped_data" = some (.ref S) → Fr h₀ L h' m' → News h₀ L h' ((S, baObj (bytesOf (stL l wd (r + 1) 0))) :: rest) → Q .next { s with heap := h', toks := tk' })
    (hE : PassesOwn (model pw w) (ktrTop dp un gd "_byteswap" f_byteswap_s L 46 (.ref 45) [] outer) (envOf "_byteswap" f_byteswap_s L 46 (.ref 45)) E) :
    wpAny (model pw w) (ktrTop dp un gd "_byteswap" f_byteswap_s L 46 (.ref 45) [] outer) (exec bsI (envOf "_byteswap" f_byteswap_s L 46 (.ref 45))) Q E s := by
  show wpAny _ _ (exec (.For (.Name "j" _) bsJ bsB [] _) _) _ _ _
  refine For_invV h₀ (by rfl) (by rfl) ?_ (hE := hE)
  have e0 : (fun (y : Str) => if y = ("width" : Str) then some (.int (wd : Nat) tw) else m y) = m := by
    funext y
    split
    · rename_i h; rw [h, m1]
    · rfl
  have F0 : Fr h₀ L s.heap (fun y => if y = ("width" : Str) then some (.int (wd : Nat) tw) else m y) := by
    rw [e0]; exact F
  have I : wpAny (model pw w) (ktrTop dp un gd "_byteswap" f_byteswap_s L 46 (.ref 45) [] outer) (eval bsJ (envOf "_byteswap" f_byteswap_s L 46 (.ref 45))) (RangeIs h₀ L (fun y => if y = ("width" : Str) then some (.int (wd : Nat) tw) else m y) ((S, baObj (bytesOf (stL l wd r 0))) :: rest) (wd : Int) 1 s) E s := by
    clear F e0
    unfold bsJ
    k_steps
    all_goals exact ⟨_, _, _, _, _, _, rfl, rfl, by assumption, by k_asm, by k_asm⟩
  refine wpAny_mono I (fun xv s₁ h => ?_) fun _ _ e => e
  obtain ⟨rr, t1, u1, v1, h1, tk1, rfl, rfl, hRg, F1, N1⟩ := h
  rw [e0] at F1
  refine range_at (n := wd) (k := wd) (c := 1) (BsI l wd r S tw tb ui rest) rfl hRg (by omega) (by omega) (by omega) (by rw [show ((1 : Nat) : Int) = 1 from rfl, rangeSize_nat]; omega) (by omega) F1 N1 ?_ ?_ ?_
  · exact ⟨rfl, m0, m1, m2, m3⟩
  · rintro I j t2 m₁ news₁ h tk own hj hown hoff ⟨rfl, f0, f1, f2, f3⟩ F' N'
    rw [Nat.mul_one] at F'
    have hle : r * wd + wd ≤ l.length := by
      rw [hR, ← Nat.succ_mul]
      exact Nat.mul_le_mul_right _ hr
    have hSI : @Ne Nat S I := hoff _ List.mem_cons_self
    have N2 : News h₀ L h ((S, baObj (bytesOf (stL l wd r j))) :: (own ++ rest)) := by
      intro p hp
      apply N'
      simp only [List.mem_cons, List.mem_append] at hp ⊢
      grind
    refine bs_turn (ri := r * wd) hl hz (stL_len ..) hj hle (by omega) ?_ B X T (fr_norm5 F' f0 f1 f2 f3) N2 hd hu ?_
    · intro p hp
      rcases List.mem_append.mp hp with h | h
      · rw [hown p h]; exact Ne.symm hSI
      · exact hrest p h
    · intro h' tk' F'' N''
      rw [stL_step l hj hr hR] at N''
      refine LoopStepU.intro F'' (news₂ := (S, baObj (bytesOf (stL l wd r (j + 1)))) :: rest) ?_ ?_ ⟨rfl, ?_, ?_, ?_, ?_⟩
      · intro p hp
        apply N''
        simp only [List.mem_cons, List.mem_append] at hp ⊢
        grind
      · intro p hp
        have : p.1 ≠ I := by
          rcases List.mem_cons.mp hp with rfl | hp
          · exact hSI
          · exact hoff p (List.mem_cons_of_mem _ hp)
        simpa using this
      · rfl
      · rfl
      · rfl
      · rfl
  · rintro m₁ news₁ h tk ⟨rfl, f0, f1, f2, f3⟩ F' N'
    rw [stL_row l wd r hw] at N'
    exact hret m₁ h tk f1 f2 f3 F' N'
end
end Mine
end
section
open Lean Meta Elab PySem PySem.W PyProof.Rows
set_option maxRecDepth 100000
set_option maxHeartbeats 0
set_option Elab.async false
set_option linter.unusedVariables false
namespace Mine
theorem fillAA : (fun (_ : Params → Frag) (_ : OpenLaw) => True) K rw1 := by k_fill; trivial
theorem kw31 : True := by
  k_with_none
  k_with "c_enter" => (refine' code_def ?k1 ?k2 ?k3 ?k4 ?k5 ?kA ?kF ?kK ?k6 ?k7 ?zk8 ?zk9 ?kB ?_ ?c2 ?c3 ?c4 ?c5; (case kA => exact rfl); (case kF => exact rfl); (case kK => assumption); (case k1 => k_asm); (case k2 => k_asm); (case k3 => k_asm); (case k4 => k_asm); (case k5 => k_asm); (case k6 => k_is); (case k7 => k_is); (case zk8 => ktr_room); (case zk9 => first | exact BindsTo.of_eq rfl | exact binds_K (by k_in) rfl (by k_is) rfl rfl rfl | fail "c_enter: the arguments"); (case c5 => decide); (case kB => exact locs rfl); (case c2 => exact rfl); (case c3 => exact rfl); (case c4 => exact rfl); k_whole; intro zg' zL' zh' zFG' zF' zN' zB' zX' zT'; (try dsimp only); (try k_fold))
  k_with "compareOp In str str" => (k_here; (first | with_reducible refine in_ch (by with_reducible assumption) ?_ | with_reducible refine in_nil ?_ | with_reducible refine in_b (b := false) (by decide +kernel) ?_ | with_reducible refine in_b (b := true) (by decide +kernel) ?_))
  k_with "compareOp NotIn str str" => (k_here; (first | with_reducible refine notin_ch (by with_reducible assumption) ?_ | with_reducible refine notin_nil ?_))
  k_with "compareOp Eq str str" => (k_here; (first | with_reducible refine eq_b (by with_reducible assumption) ?_ | with_reducible refine eq_b (b := false) (by decide +kernel) ?_ | with_reducible refine eq_b (b := true) (by decide +kernel) ?_))
  k_with "truthy str" => (k_here; (first | with_reducible refine truthy_ch ?_ | with_reducible refine truthy_nil ?_ | with_reducible refine truthy_p (by with_reducible assumption) (by with_reducible assumption) ?_); intro zk9)
  k_with "s_enter" => (refine' code_defS ?k1 ?k2 ?k3 ?k4 ?k5 ?XB ?TB ?D ?T0 ?kA ?k6 ?k7 ?zk8 ?zk9 ?kB ?_ ?cK ?c2 ?c3 ?c4 ?c5; (case kA => exact rfl); (case k2 => k_asm); (case k1 => k_asm); (case XB => exact Gd.x (by assumption)); (case TB => exact Gd.t (by assumption)); (case D => assumption); (case T0 => exact KtsTurn.refl); (case k3 => k_asm); (case k4 => k_asm); (case k5 => k_asm); (case k6 => k_is); (case k7 => k_is); (case zk8 => ktr_room); (case zk9 => first | exact BindsTo.of_eq rfl | exact binds_K (by k_in) rfl (by k_is) rfl rfl rfl | fail "s_enter: the arguments"); (case kB => exact locs rfl); (case cK => first | exact rfl | assumption); (case c2 => exact rfl); (case c3 => exact rfl); (case c4 => exact rfl); (case c5 => decide); k_whole; intro zg' zL' zh' zFG' zF' zN' zB' zX' zT' zD'; (try dsimp only); (try k_fold))
  trivial
theorem rangeSize_step (R wd : Nat) (hw : 0 < wd) : Builtin.Range.rangeSize 0 ((R * wd : Nat) : Int) (wd : Int) = (R : Int) := by
  unfold Builtin.Range.rangeSize
  rw [if_pos (by omega)]
  cases R with
  | zero => rw [Nat.zero_mul, if_neg (by omega)]; rfl
  | succ R =>
    have h1 : 0 < (R + 1) * wd := Nat.mul_pos (Nat.succ_pos _) hw
    rw [if_pos (by omega)]
    have e : (((R + 1) * wd : Nat) : Int) - 0 - 1 = (wd : Int) * (R : Int) + ((wd : Int) - 1) := by
      rw [Nat.succ_mul]
      push_cast
      rw [Int.mul_comm]
      omega
    rw [e, Int.mul_add_ediv_left _ _ (by omega), Int.ediv_eq_zero_of_lt (by omega) (by omega)]
    omega
section
variable {w : World} {mean : ExcName → Option Value} {mg mb : Str → Option Value} {dp un : Nat} {gd : Option (List Code)} {outer : List Env} {A₀ : Around} {base h₀ : Heap} {L : Addr} {m : Str → Option Value} {rest news : List (Addr × Obj)} {s : Shared} {Q : Flow → Shared → Prop} {E : Value → Shared → Prop}
theorem bs_outer {l : List Nat} {wd R : Nat} {S : Nat} {tw tb : Tok} (hl : ∀ c ∈ l, c < 256) (hz : l.length ≤ 1000) (hw : 0 < wd) (hw2 : wd ≤ 1000) (hR : l.length = R * wd) (hrest : ∀ p ∈ rest, p.1 ≠ S)
    (B : Below A₀ base outer h₀) (F : Fr h₀ L s.heap m) (X : (K w.params).In h₀) (N : News h₀ L s.heap ((S, baObj (bytesOf (stL l wd 0 0))) :: rest)) (T : Top q loose mean mg mb h₀)
    (m1 : m "width" = some (.int (wd : Nat) tw)) (m2 : m "data" = some (.bytes (bytesOf l) tb)) (m3 : m "swapped_data" = some (.ref S))
    (hd : dp + 8 < recursionLimit) (hu : un + 60 < cLine)
    (hret : ∀ (m' : Str → Option Value) h' tk', Fr h₀ L h' (fun y => if y = ("swapped_data" : Str) then some (.ref S) else m' y) → News h₀ L h' ((S, baObj (bytesOf (swp l wd))) :: rest) → Q .next { s with heap := h', toks := tk' })
    (hE : PassesOwn (model pw w) (ktrTop dp un gd "_byteswap" f_byteswap_s L 46 (.ref 45) [] outer) (envOf "_byteswap" f_byteswap_s L 46 (.ref 45)) E) :
    wpAny (model pw w) (ktrTop dp un gd "_byteswap" f_byteswap_s L 46 (.ref 45) [] outer) (exec bsF (envOf "_byteswap" f_byteswap_s L 46 (.ref 45))) Q E s := by
  show wpAny _ _ (exec (.For (.Name "i" _) bsK [bsI] [] _) _) _ _ _
  refine For_invV h₀ (by rfl) (by rfl) ?_ (hE := hE)
  have e0 : (fun (y : Str) => if y = ("width" : Str) then some (.int (wd : Nat) tw) else if y = ("data" : Str) then some (.bytes (bytesOf l) tb) else m y) = m := by
    funext y
    split
    · rename_i h; rw [h, m1]
    · split
      · rename_i h; rw [h, m2]
      · rfl
  have F0 : Fr h₀ L s.heap (fun y => if y = ("width" : Str) then some (.int (wd : Nat) tw) else if y = ("data" : Str) then some (.bytes (bytesOf l) tb) else m y) := by
    rw [e0]; exact F
  have hsz : (bytesOf l).size ≤ 1000 := by rw [bytesOf_size]; exact hz
  have I : wpAny (model pw w) (ktrTop dp un gd "_byteswap" f_byteswap_s L 46 (.ref 45) [] outer) (eval bsK (envOf "_byteswap" f_byteswap_s L 46 (.ref 45))) (RangeIs h₀ L (fun y => if y = ("width" : Str) then some (.int (wd : Nat) tw) else if y = ("data" : Str) then some (.bytes (bytesOf l) tb) else m y) ((S, baObj (bytesOf (stL l wd 0 0))) :: rest) ((bytesOf l).size : Int) (wd : Int) s) E s := by
    clear F e0
    unfold bsK
    k_steps
    all_goals (exact ⟨_, _, _, _, _, _, rfl, rfl, by assumption, by k_asm, by k_asm⟩)
  refine wpAny_mono I (fun xv s₁ h => ?_) fun _ _ e => e
  obtain ⟨rr, t1, u1, v1, h1, tk1, rfl, rfl, hRg, F1, N1⟩ := h
  rw [e0] at F1
  rw [bytesOf_size] at hRg
  have hRl : R ≤ l.length := by rw [hR]; exact Nat.le_mul_of_pos_right _ hw
  refine range_at (n := l.length) (k := R) (c := wd) (BsO l wd S tw tb rest) rfl hRg hz hw hw2 (by rw [hR]; exact rangeSize_step R wd hw) (by omega) F1 N1 ?_ ?_ ?_
  · exact ⟨rfl, m1, m2, m3⟩
  · rintro I r t2 m₁ news₁ h tk own hr hown hoff ⟨rfl, f1, f2, f3⟩ F' N'
    have hSI : @Ne Nat S I := hoff _ List.mem_cons_self
    have N2 : News h₀ L h ((S, baObj (bytesOf (stL l wd r 0))) :: (own ++ rest)) := by
      intro p hp
      apply N'
      simp only [List.mem_cons, List.mem_append] at hp ⊢
      grind
    refine wpAny_execs_cons (bs_inner (ui := t2) (u := 0) (tw := tw) (tb := tb) hl hz hw hw2 hr hR ?_ B F' X N2 T ?_ ?_ ?_ ?_ hd hu ?_ hE)
    · intro p hp
      rcases List.mem_append.mp hp with h | h
      · rw [hown p h]; exact Ne.symm hSI
      · exact hrest p h
    · exact if_pos rfl
    · exact (if_neg (by decide)).trans f1
    · exact (if_neg (by decide)).trans f2
    · exact (if_neg (by decide)).trans f3
    · intro m' h' tk' g1 g2 g3 F'' N''
      refine wpAny_execs_nil ?_
      refine LoopStepU.intro F'' (news₂ := (S, baObj (bytesOf (stL l wd (r + 1) 0))) :: rest) ?_ ?_ ⟨rfl, g1, g2, g3⟩
      · intro p hp
        apply N''
        simp only [List.mem_cons, List.mem_append] at hp ⊢
        grind
      · intro p hp
        have : p.1 ≠ I := by
          rcases List.mem_cons.mp hp with rfl | hp
          · exact hSI
          · exact hoff p (List.mem_cons_of_mem _ hp)
        simpa using this
  · rintro m₁ news₁ h tk ⟨rfl, f1, f2, f3⟩ F' N'
    rw [stL_end l wd R hw hR] at N'
    refine hret m₁ h tk ?_ N'
    have e : (fun (y : Str) => if y = ("swapped_data" : Str) then some (.ref S) else m₁ y) = m₁ := by
      funext y
      split
      · rename_i h; rw [h, f3]
      · rfl
    rw [e]; exact F'
end
end Mine
end
section
open Lean Meta Elab PySem PySem.W PyProof.Rows
set_option maxRecDepth 100000
set_option maxHeartbeats 0
set_option Elab.async false
set_option linter.unusedVariables false
namespace Mine
theorem fillAB : (fun (_ : Params → Frag) (_ : OpenLaw) => True) K rw1 := by k_fill; trivial
theorem kw32 : True := by
  k_with_none
  k_with "c_enter" => (refine' code_def ?k1 ?k2 ?k3 ?k4 ?k5 ?kA ?kF ?kK ?k6 ?k7 ?zk8 ?zk9 ?kB ?_ ?c2 ?c3 ?c4 ?c5; (case kA => exact rfl); (case kF => exact rfl); (case kK => assumption); (case k1 => k_asm); (case k2 => k_asm); (case k3 => k_asm); (case k4 => k_asm); (case k5 => k_asm); (case k6 => k_is); (case k7 => k_is); (case zk8 => ktr_room); (case zk9 => first | exact BindsTo.of_eq rfl | exact binds_K (by k_in) rfl (by k_is) rfl rfl rfl | fail "c_enter: the arguments"); (case c5 => decide); (case kB => exact locs rfl); (case c2 => exact rfl); (case c3 => exact rfl); (case c4 => exact rfl); k_whole; intro zg' zL' zh' zFG' zF' zN' zB' zX' zT'; (try dsimp only); (try k_fold))
  k_with "compareOp In str str" => (k_here; (first | with_reducible refine in_ch (by with_reducible assumption) ?_ | with_reducible refine in_nil ?_ | with_reducible refine in_b (b := false) (by decide +kernel) ?_ | with_reducible refine in_b (b := true) (by decide +kernel) ?_))
  k_with "compareOp NotIn str str" => (k_here; (first | with_reducible refine notin_ch (by with_reducible assumption) ?_ | with_reducible refine notin_nil ?_))
  k_with "compareOp Eq str str" => (k_here; (first | with_reducible refine eq_b (by with_reducible assumption) ?_ | with_reducible refine eq_b (b := false) (by decide +kernel) ?_ | with_reducible refine eq_b (b := true) (by decide +kernel) ?_))
  k_with "truthy str" => (k_here; (first | with_reducible refine truthy_ch ?_ | with_reducible refine truthy_nil ?_ | with_reducible refine truthy_p (by with_reducible assumption) (by with_reducible assumption) ?_); intro zk9)
  k_with "s_enter" => (refine' code_defS ?k1 ?k2 ?k3 ?k4 ?k5 ?XB ?TB ?D ?T0 ?kA ?k6 ?k7 ?zk8 ?zk9 ?kB ?_ ?cK ?c2 ?c3 ?c4 ?c5; (case kA => exact rfl); (case k2 => k_asm); (case k1 => k_asm); (case XB => exact Gd.x (by assumption)); (case TB => exact Gd.t (by assumption)); (case D => assumption); (case T0 => exact KtsTurn.refl); (case k3 => k_asm); (case k4 => k_asm); (case k5 => k_asm); (case k6 => k_is); (case k7 => k_is); (case zk8 => ktr_room); (case zk9 => first | exact BindsTo.of_eq rfl | exact binds_K (by k_in) rfl (by k_is) rfl rfl rfl | fail "s_enter: the arguments"); (case kB => exact locs rfl); (case cK => first | exact rfl | assumption); (case c2 => exact rfl); (case c3 => exact rfl); (case c4 => exact rfl); (case c5 => decide); k_whole; intro zg' zL' zh' zFG' zF' zN' zB' zX' zT' zD'; (try dsimp only); (try k_fold))
  trivial
section
variable {prog : Program} {w : World} {A₀ A : Around} {E : Value → Shared → Prop} {s : Shared} {base h₀ : Heap} {outer : List Env} {L : Addr} {m : Str → Option Value} {env : Env} {news : List (Addr × Obj)}
theorem code_defGx {K : Frag} {p : Program} {loose : List Str} {mean : ExcName → Option Value} {mg mb : Str → Option Value} {R : Result → Shared → Prop} {name qual : Str} {params : Arguments} {body : List Stmt} {scope : Scope} {dV kV doc pm cdv ct oc : Value} {an od : Option Addr} {osl : Array (Option Value)} {f : Addr} {args : Args} {binds : List (Str × Value)}
    (B : Below A₀ base outer h₀) (F : Fr h₀ L s.heap m) (X₀ : K.In h₀) (N : News h₀ L s.heap news) (T : Top p loose mean mg mb h₀) (hA : A.frames = some (env :: outer)) (hf : env.frame = some L) (hke : env.scope.kind = .function)
    (ho : K.lookup f = some ⟨oc, od, .func (fnOf name qual params body scope dV kV doc pm an cdv ct), osl⟩) (hcd : codeIn K cdv qual = true) (hroom : A.depth < recursionLimit)
    (hbind : BindsTo s (fnOf name qual params body scope dV kV doc pm an cdv ct) args binds) (hloc : ∀ y ∈ binds, scope.names.lookup y.1 = some .local)
    (h : ∀ g L' h₁, Fr h₀ L g m → Fr g L' h₁ (fun y => binds.reverse.lookup y) → News g L' h₁ news → Below A base (env :: outer) g → K.In g → Top p loose mean mg mb g →
      wpG (model prog w) (A.deeper (envOf qual scope L' f cdv)) (execs body (envOf qual scope L' f cdv))
        (fun fl s' => LeaveK h₀ L m g R (match fl with | .ret v => v | _ => .none) s')
        (fun e s' => wpAny (model prog w) (A.deeper (envOf qual scope L' f cdv)) (leaving (envOf qual scope L' f cdv) e) (fun _ s'' => R (.error e) s'') (fun e' s'' => R (.error e') s'') s')
        { s with heap := h₁, toks := s.toks + binds.length })
    (hco : scope.isCoroutine = false) (hgen : scope.isGenerator = false) (hk : scope.kind = .function)
    (hcell : ∀ x ∈ scope.names, x.2 ≠ .cell) : codeG (model prog w) A (.call (.ref f) args) R s := by
  obtain ⟨FG, BG, st, lv⟩ := groundX (R := R) B F N hA hf hke
  refine codeG_call_def (fd := fnOf name qual params body scope dV kV doc pm an cdv ct) (body := body) (binds := binds) hroom ((X₀.keeps F.keep) _ _ ho) rfl (T.nolimit.keeps F.keep) (codeRec_of (X₀.keeps F.keep) hcd) rfl hbind hcell hloc (fun h₁ hns hk₁ => ?_) hco hgen hk
  exact wpG_mono (h _ s.heap.objs.size h₁ FG ⟨hns, fun b o e => hk₁ b o (of_hideAll _ e), Nat.le_of_eq (hideAll_size _ _)⟩
    (fun p hp => ⟨hk₁ _ _ (N p hp).1, Nat.ne_of_lt (Heap.lt_size (N p hp).1), hideAll_none _ (List.mem_map_of_mem hp)⟩) BG (X₀.keeps st) (T.keeps st)) (fun fl s' hl => lv _ _ hl) fun _ _ y => y
theorem wpG_callWith_T {M : Model} {pos : Pos} {T : String} {Q : Value → Shared → Prop} {e : PySem.Expr} {rest : List PySem.Expr}
    (h : wpG M A (spliced (backTo pos (starEach (e :: rest) env))) (fun vs s₁ => wpG M A (call (.type T) vs) Q E s₁) E s)
    (he : starEach (e :: rest) env = (false, eval e env) :: starEach rest env := by rfl) (hplain : (backTo pos (starEach rest env)).any (·.1) = false := by rfl) :
    wpG M A (callWith pos (.type T) [] (backTo pos (starEach (e :: rest) env)) []) Q E s := by
  rw [he] at h ⊢
  refine wpG_callWith (P := fun _ => True) (by show ((false || (backTo pos (starEach rest env)).any (·.1)) || false) = false; rw [hplain]; rfl) (fun h _ => ⟨_, .inr (.inl rfl), Looks.of_pure rfl⟩) (wpG_evalArgs (wpG_mono h (fun vs s' x => ⟨True.intro, x⟩) fun _ _ x => x))
end
end Mine
end
section
open Lean Meta Elab PySem PySem.W PyProof.Rows
set_option maxRecDepth 100000
set_option maxHeartbeats 0
set_option Elab.async false
set_option linter.unusedVariables false
namespace Mine
theorem fillAC : (fun (_ : Params → Frag) (_ : OpenLaw) => True) K rw1 := by k_fill; trivial
theorem kw33 : True := by
  k_with_none
  k_with "c_enter" => (refine' code_def ?k1 ?k2 ?k3 ?k4 ?k5 ?kA ?kF ?kK ?k6 ?k7 ?zk8 ?zk9 ?kB ?_ ?c2 ?c3 ?c4 ?c5; (case kA => exact rfl); (case kF => exact rfl); (case kK => assumption); (case k1 => k_asm); (case k2 => k_asm); (case k3 => k_asm); (case k4 => k_asm); (case k5 => k_asm); (case k6 => k_is); (case k7 => k_is); (case zk8 => ktr_room); (case zk9 => first | exact BindsTo.of_eq rfl | exact binds_K (by k_in) rfl (by k_is) rfl rfl rfl | fail "c_enter: the arguments"); (case c5 => decide); (case kB => exact locs rfl); (case c2 => exact rfl); (case c3 => exact rfl); (case c4 => exact rfl); k_whole; intro zg' zL' zh' zFG' zF' zN' zB' zX' zT'; (try dsimp only); (try k_fold))
  k_with "compareOp In str str" => (k_here; (first | with_reducible refine in_ch (by with_reducible assumption) ?_ | with_reducible refine in_nil ?_ | with_reducible refine in_b (b := false) (by decide +kernel) ?_ | with_reducible refine in_b (b := true) (by decide +kernel) ?_))
  k_with "compareOp NotIn str str" => (k_here; (first | with_reducible refine notin_ch (by with_reducible assumption) ?_ | with_reducible refine notin_nil ?_))
  k_with "compareOp Eq str str" => (k_here; (first | with_reducible refine eq_b (by with_reducible assumption) ?_ | with_reducible refine eq_b (b := false) (by decide +kernel) ?_ | with_reducible refine eq_b (b := true) (by decide +kernel) ?_))
  k_with "truthy str" => (k_here; (first | with_reducible refine truthy_ch ?_ | with_reducible refine truthy_nil ?_ | with_reducible refine truthy_p (by with_reducible assumption) (by with_reducible assumption) ?_); intro zk9)
  k_with "s_enter" => (refine' code_defS ?k1 ?k2 ?k3 ?k4 ?k5 ?XB ?TB ?D ?T0 ?kA ?k6 ?k7 ?zk8 ?zk9 ?kB ?_ ?cK ?c2 ?c3 ?c4 ?c5; (case kA => exact rfl); (case k2 => k_asm); (case k1 => k_asm); (case XB => exact Gd.x (by assumption)); (case TB => exact Gd.t (by assumption)); (case D => assumption); (case T0 => exact KtsTurn.refl); (case k3 => k_asm); (case k4 => k_asm); (case k5 => k_asm); (case k6 => k_is); (case k7 => k_is); (case zk8 => ktr_room); (case zk9 => first | exact BindsTo.of_eq rfl | exact binds_K (by k_in) rfl (by k_is) rfl rfl rfl | fail "s_enter: the arguments"); (case kB => exact locs rfl); (case cK => first | exact rfl | assumption); (case c2 => exact rfl); (case c3 => exact rfl); (case c4 => exact rfl); (case c5 => decide); k_whole; intro zg' zL' zh' zFG' zF' zN' zB' zX' zT' zD'; (try dsimp only); (try k_fold))
  trivial
noncomputable def bsP0 : Stmt := litOf (stm f_byteswap_b 0) (by conv => rhs; whnf)
noncomputable def bsP2 : Stmt := litOf (stm f_byteswap_b 2) (by conv => rhs; whnf)
theorem bs_body : f_byteswap_b = [bsP0, bsF, bsP2] := by with_unfolding_all rfl
noncomputable def bsE0 : PySem.Expr := litOf (match bsP0 with | .Assign _ v _ => v | _ => .Constant .none 0 default) (by conv => rhs; whnf)
theorem call_baN {prog : Program} {w : World} {A : Around} {E : Value → Shared → Prop} {s : Shared} {h₀ : Heap} {L : Addr} {m : Str → Option Value} {news : List (Addr × Obj)} {l : List Nat} {t : Tok} {Q : Value → Shared → Prop} (hn : l.length ≤ 1000) (F : Fr h₀ L s.heap m) (N : News h₀ L s.heap news)
    (h : ∀ (S : Nat) h' k, Fr h₀ L h' m → News h₀ L h' ((S, baObj (bytesOf (List.replicate l.length 0))) :: news) → (∀ p ∈ news, p.1 < S) → Q (.ref S) { s with heap := h', toks := k }) :
    wpG (model prog w) A (call (.type "bytearray") [.int ((bytesOf l).size : Nat) t]) Q E s := by
  refine call_ba (by rw [bytesOf_size]; exact hn) fun h' k hg hs => ?_
  have e : Array.replicate (bytesOf l).size (0 : UInt8) = bytesOf (List.replicate l.length 0) := by
    apply Array.toList_inj.mp
    rw [bytesOf_size]
    simp
  rw [e] at hg
  exact h _ h' k (F.filled hs) (News.filled F N hs hg) fun p hp => Heap.lt_size (N p hp).1
section
variable {w : World} {mean : ExcName → Option Value} {mg mb : Str → Option Value} {dp un : Nat} {gd : Option (List Code)} {outer : List Env} {A₀ : Around} {base h₀ : Heap} {L : Addr} {m : Str → Option Value} {news : List (Addr × Obj)} {s : Shared} {Q : Flow → Shared → Prop} {E : Value → Shared → Prop}
def CallW (K : Frag) (f : Value) (vs : List Value) (h₀ : Heap) (L : Addr) (m : Str → Option Value) (news : List (Addr × Obj)) (s : Shared) (vs' : List Value) (s₁ : Shared) : Prop := vs' = vs ∧ ∃ h tk, s₁ = { s with heap := h, toks := tk } ∧ Fr h₀ L h m ∧ News h₀ L h news
theorem ba_P0 {l : List Nat} {tb : Tok} (hz : l.length ≤ 1000)
    (B : Below A₀ base outer h₀) (F : Fr h₀ L s.heap m) (X : (K w.params).In h₀) (N : News h₀ L s.heap news) (T : Top q loose mean mg mb h₀)
    (m2 : m "data" = some (.bytes (bytesOf l) tb))
    (hret : ∀ (S : Nat) h' tk', (∀ p ∈ news, p.1 < S) → Fr h₀ L h' (fun y => if y = ("swapped_data" : Str) then some (.ref S) else m y) → News h₀ L h' ((S, baObj (bytesOf (List.replicate l.length 0))) :: news) → Q .next { s with heap := h', toks := tk' }) :
    wpG (model pw w) (ktrTop dp un gd "_byteswap" f_byteswap_s L 46 (.ref 45) [] outer) (exec bsP0 (envOf "_byteswap" f_byteswap_s L 46 (.ref 45))) Q E s := by
  have e0 : (fun (y : Str) => if y = ("data" : Str) then some (.bytes (bytesOf l) tb) else m y) = m := by
    funext y
    split
    · rename_i h; rw [h, m2]
    · rfl
  have hsz : (bytesOf l).size ≤ 1000 := by rw [bytesOf_size]; exact hz
  have F0 : Fr h₀ L s.heap (fun y => if y = ("data" : Str) then some (.bytes (bytesOf l) tb) else m y) := by
    rw [e0]; exact F
  show wpG _ _ (exec (.Assign [.Name "swapped_data" _] (.Call (.Name "bytearray" _) _ [] _) _) _) _ _ _
  refine wpG_Assign_Name (wpG_Call ?_)
  have hret' : ∀ (S : Nat) h' tk', (∀ p ∈ news, p.1 < S) → Fr h₀ L h' (fun y => if y = ("swapped_data" : Str) then some (.ref S) else (fun (y : Str) => if y = ("data" : Str) then some (.bytes (bytesOf l) tb) else m y) y) → News h₀ L h' ((S, baObj (bytesOf (List.replicate l.length 0))) :: news) → Q .next { s with heap := h', toks := tk' } := by
    rw [e0]; exact hret
  clear F e0 hret
  k_steps
  refine wpG_callWith_T (wpG.of ?_)
  k_steps
  all_goals (refine call_baN hz (by k_asm) (by k_asm) ?_; intro S9 h9 k9 F9 N9 l9; dsimp only)
  all_goals k_steps
  all_goals exact hret' _ _ _ (by assumption) (by k_asm) (by k_asm)
end
theorem kw34 : True := by
  k_with "exec" => (k_here; k_dflt (refine' bs_outer ?r0 ?rz ?rw ?rv ?rR ?ro ?rB ?rF ?rX ?rN ?rT ?m1 ?m2 ?m3 ?rd ?ru ?_ ?rE; (case r0 => assumption); (case rz => assumption); (case rw => assumption); (case rv => assumption); (case rR => assumption); (case rB => k_asm); (case rF => k_asm); (case rX => k_asm); trace "X"; (case rN => k_asm); trace "N"; (case rT => k_asm); (case ro => assumption); trace "o"; (case m1 => exact rfl); (case m2 => exact rfl); (case m3 => exact rfl); trace "m"; (case rd => ktr_room); (case ru => ktr_units); (case rE => passes_own); k_whole); intro zm9 zh9 ztk9 zF9 zN9; (try dsimp only))
  trivial
theorem bytesN {prog : Program} {w : World} {A : Around} {E : Value → Shared → Prop} {s : Shared} {h₀ : Heap} {L : Addr} {S : Nat} {news : List (Addr × Obj)} {l : List Nat} {Q : Value → Shared → Prop} (N : News h₀ L s.heap ((S, baObj (bytesOf l)) :: news)) (hz : l.length ≤ 1000) (h : ∀ t k, Q (.bytes (bytesOf l) t) { s with toks := k }) :
    wpAny (model prog w) A (call (.type "bytes") [.ref S]) Q E s := bytes_of_ba (N _ List.mem_cons_self).1 (by rw [bytesOf_size]; exact hz) h
theorem kw35 : True := by
  k_with "call type:bytes" => (k_here; k_dflt (refine' bytesN ?rN ?rz ?_; (case rN => k_asm); (case rz => first | assumption | (rw [swp_len]; assumption)); k_whole); intro zt9 zk9; (try dsimp only))
  trivial
section
variable {w : World} {mean : ExcName → Option Value} {mg mb : Str → Option Value} {dp un : Nat} {gd : Option (List Code)} {cn : Str} {cs : Scope} {a : Addr} {ccd : Value} {cl : List (Str × Addr)} {outer : List Env} {A₀ : Around} {base h₀ : Heap} {L : Addr} {m : Str → Option Value} {news : List (Addr × Obj)} {s : Shared} {Q E : Value → Shared → Prop}
theorem bswap_c {l : List Nat} {wd R : Nat} {tb tw : Tok} (hl : ∀ c ∈ l, c < 256) (hz : l.length ≤ 1000) (hw : 0 < wd) (hw2 : wd ≤ 1000) (hR : l.length = R * wd)
    (B : Below A₀ base outer h₀) (F : Fr h₀ L s.heap m) (X : (K w.params).In h₀) (N : News h₀ L s.heap news) (T : Top q loose mean mg mb h₀) (hk : cs.kind = .function)
    (hd : dp + 10 < recursionLimit) (hu : un + 80 < cLine)
    (hret : ∀ t h' tk', Fr h₀ L h' m → News h₀ L h' news → Q (.bytes (bytesOf (swp l wd)) t) { s with heap := h', toks := tk' }) :
    wpG (model pw w) (ktrTop dp un gd cn cs L a ccd cl outer) (call (.ref 46) [.bytes (bytesOf l) tb, .int (wd : Nat) tw]) Q E s := by
  refine wpG_call ?_
  refine' code_defGx B F X N T rfl rfl hk ?k6 ?k7 ?k8 ?k9 ?kB ?_ ?c2 ?c3 ?c4 ?c5
  case k6 => k_is
  case k7 => k_is
  case k8 => ktr_room
  case k9 => exact BindsTo.of_eq rfl
  case c5 => decide
  case kB => exact locs rfl
  case c2 => exact rfl
  case c3 => exact rfl
  case c4 => exact rfl
  intro g' L' h' FG' F' N' B' X' T'
  dsimp only
  rw [bs_body]
  refine wpG_execs_cons ?_
  refine ba_P0 hz B' F' X' N' T' rfl ?_
  intro S h1 tk1 lS F1 N1
  rw [← stL_0 l wd hw] at N1
  have ho : ∀ p ∈ news, p.1 ≠ S := fun p hp => Nat.ne_of_lt (lS p hp)
  refine wpG.of ?_
  unfold bsP2
  k_steps
  all_goals exact hret _ _ _ (by k_asm) (news_tail (by k_asm))
end
end Mine
end
section
open Lean Meta Elab PySem PySem.W PyProof.Rows PySem.Spec PySem.Calls
set_option maxRecDepth 100000
set_option maxHeartbeats 0
set_option Elab.async false
set_option linter.unusedVariables false
namespace Mine
/-- a source of a comprehension: an iterator that stands new behind the ledger -/
def CompAt (prog : Program) (w : World) (A : Around) (h₀ : Heap) (L : Addr) (m : Str → Option Value) (env : Env) (elt : PySem.Expr) (x : Str) (scope : Scope) (cl : List (Str × Addr)) (Fin : Shared → List Value → List (Addr × Obj) → Prop) (it : Value) (s₂ : Shared) : Prop :=
  ∃ (I : Addr) (n : Nat) (P : Nat → Value → Prop) (St : Nat → Heap → Prop) (news : List (Addr × Obj)), it = .ref I ∧ Walks prog w A I [I] [I] n P St ∧ n ≤ sizeLine ∧ (∀ i h, St i h → ∃ o, h.get? I = some o) ∧
    (∀ i h h' o, St i h → h.get? I = some o → h'.get? I = some o → St i h') ∧ St 0 s₂.heap ∧ I < s₂.heap.objs.size ∧ Fr h₀ L s₂.heap m ∧ News h₀ L s₂.heap news ∧ L ≠ I ∧ h₀.get? I = none ∧ (∀ p ∈ news, p.1 ≠ I) ∧
    LCg.CompRest prog w A h₀ L m env elt x scope cl s₂ (fun _ => True) P (Fin s₂) n 0 [] news
section
variable {prog : Program} {w : World} {A : Around} {E : Value → Shared → Prop} {s : Shared} {h₀ : Heap} {L : Addr} {m : Str → Option Value} {env : Env}
theorem ListComp_W {elt iter : PySem.Expr} {x : Str} {px : Pos} {scope : Scope} {cl : List (Str × Addr)} {pos : Pos} {Q : Value → Shared → Prop} (F₀ : Fr h₀ L s.heap m)
    (hclos : closureFor scope env = pure cl) (hcell : ∀ y ∈ scope.names, y.2 ≠ .cell) (hkind : scope.kind = .function)
    (hnames : ∀ y ∈ scope.names, y.2 = .local → scope.names.lookup y.1 = some .local) (hx : scope.names.lookup x = some .local)
    (h : wpAny (model prog w) A (eval iter env) (fun xv s₁ => wpAny (model prog w) A (pyIter xv) (CompAt prog w A h₀ L m env elt x scope cl (fun s₂ => LCg.FinE h₀ L m s₂ Q)) E s₁) E s)
    (hs : ∀ x, foldedSetIterable iter env x = pure x := by intro _; rfl) :
    wpAny (model prog w) A (eval (.ListComp elt [⟨.Name x px, iter, [], 0⟩] scope pos) env) Q E s := by
  rw [eval_ListComp]
  refine wpAny_comprehension_free (use := none) rfl hs hclos hkind hnames (wpAny_mono h (fun xv s₁ h₁ => ?_) fun _ _ e => e)
  refine wpAny_mono h₁ (fun it s₂ h₂ => ?_) fun _ _ e => e
  obtain ⟨I, n, P, St, news, rfl, W, hsz, hIo, hSt, hst, hI, F, N, hLI, hI0, off, R⟩ := h₂
  refine LCg.block_U W hsz hIo (fun i h h' o nw a b c _ _ _ => hSt i h h' o a b c) hcell hkind hx hst (fun b hb => by rw [List.mem_singleton.mp hb]; exact hI) F N hLI hI0 off True.intro R ?_
  intro D C h tk m' ys news' F' N' o1 hn hC₀ hD₀ hCL hDL hCD offC fin
  refine ⟨m', hn, fun h'' hs'' => fin D h'' tk (F'.change hs'' hCL hC₀) (fun p hp => ?_) o1⟩
  refine ⟨hs''.extBut _ _ ?_ (N' p hp).1, (N' p hp).2⟩
  rcases List.mem_cons.mp hp with rfl | hp
  · exact Ne.symm hCD
  · exact offC p hp
theorem rest_gen {elt : PySem.Expr} {x : Str} {scope : Scope} {cl : List (Str × Addr)} {S : List (Addr × Obj) → Prop} {P : Nat → Value → Prop} {Fin : List Value → List (Addr × Obj) → Prop} {news : List (Addr × Obj)} {n : Nat} (R : Nat → List Value → Prop) (h0 : R 0 [])
    (turn : ∀ i v I oI C oC D m₂ ys h tk (E' : Value → Shared → Prop), i < n → P i v → R i ys → LCg.NsObj oC m₂ → m₂ x = some v → Fr h₀ L h m → News h₀ L h ((I, oI) :: (C, oC) :: (D, LCg.lst ys) :: news) → LCg.Off3 I C D news → ((@Ne Nat I C) ∧ (@Ne Nat I D) ∧ (@Ne Nat C D)) →
      wpAny (model prog w) A (eval elt (compEnvC scope cl C env)) (LCg.CompEnd h₀ L m { s with heap := h, toks := tk } I oI C oC D (LCg.lst ys) S (fun y news' => news' = news ∧ R (i + 1) (ys ++ [y]))) E' { s with heap := h, toks := tk })
    (fin : ∀ ys, R n ys → Fin ys news) : LCg.CompRest prog w A h₀ L m env elt x scope cl s S P Fin n 0 [] news := by
  have key : ∀ (k i : Nat) (ys : List Value), i + k = n → R i ys → LCg.CompRest prog w A h₀ L m env elt x scope cl s S P Fin k i ys news := by
    intro k
    induction k with
    | zero =>
      intro i ys e r
      obtain rfl : i = n := by omega
      exact LCg.CompRest.zero (fin ys r)
    | succ k ih =>
      intro i ys e r
      refine LCg.CompRest.succ ?_
      intro v I oI C oC D m₂ h tk E' hv hC hx F N off ne
      refine wpAny_mono (turn i v I oI C oC D m₂ ys h tk E' (by omega) hv r hC hx F N off ne) (fun y s₂ hq => ?_) fun _ _ e => e
      obtain ⟨h', tk', nw, e', F', N', off', hS, hn, hr⟩ := hq
      subst hn
      exact ⟨h', tk', nw, e', F', N', off', hS, ih (i + 1) _ (by omega) hr⟩
  exact key n 0 [] (by omega) h0
/-- a str as a source -/
theorem str_src {elt : PySem.Expr} {x : Str} {scope : Scope} {cl : List (Str × Addr)} {Fin : Shared → List Value → List (Addr × Obj) → Prop} {y : Str} {t : Tok} {news : List (Addr × Obj)} (hh : A.handled = none) (hz : y.cps.size ≤ sizeLine) (F : Fr h₀ L s.heap m) (N : News h₀ L s.heap news)
    (h : ∀ g, LCg.CompRest prog w A h₀ L m env elt x scope cl { s with heap := g } (fun _ => True) (SignAt y) (Fin { s with heap := g }) y.cps.size 0 [] news) :
    wpAny (model prog w) A (pyIter (.str y t)) (CompAt prog w A h₀ L m env elt x scope cl Fin) E s := by
  cases ha : y.cps.all (· < 128)
  · refine wpAny_pyIter_wide ha ⟨_, _, _, _, news, rfl, Walks.strWide hh _ y t, hz, fun i h st => let ⟨o, e, _⟩ := st; ⟨o, e⟩, fun i h h' o st e e' => let ⟨o', e1, r⟩ := st; ⟨o', (by rw [e1] at e; rw [e']; exact e.symm), r⟩, ⟨_, Heap.get?_push_size _ rfl, rfl, rfl⟩, ?_, F.push _, (fun p hp => ⟨Heap.get?_push_of_some _ (N p hp).1, (N p hp).2⟩), Nat.ne_of_lt F.ns.lt, next_is_new F, fun p hp => Nat.ne_of_lt (Heap.lt_size (N p hp).1), h _⟩
    rw [Heap.size_push]; exact Nat.lt_succ_self _
  · refine wpAny_pyIter_ascii ha ⟨_, _, _, _, news, rfl, Walks.strAscii hh _ y t, hz, fun i h st => let ⟨o, e, _⟩ := st; ⟨o, e⟩, fun i h h' o st e e' => let ⟨o', e1, r⟩ := st; ⟨o', (by rw [e1] at e; rw [e']; exact e.symm), r⟩, ⟨_, Heap.get?_push_size _ rfl, rfl, rfl⟩, ?_, F.push _, (fun p hp => ⟨Heap.get?_push_of_some _ (N p hp).1, (N p hp).2⟩), Nat.ne_of_lt F.ns.lt, next_is_new F, fun p hp => Nat.ne_of_lt (Heap.lt_size (N p hp).1), h _⟩
    rw [Heap.size_push]; exact Nat.lt_succ_self _
/-- bytes as a source -/
theorem bytes_src {elt : PySem.Expr} {x : Str} {scope : Scope} {cl : List (Str × Addr)} {Fin : Shared → List Value → List (Addr × Obj) → Prop} {b : Array UInt8} {t : Tok} {news : List (Addr × Obj)} (hh : A.handled = none) (hz : b.size ≤ sizeLine) (F : Fr h₀ L s.heap m) (N : News h₀ L s.heap news)
    (h : ∀ g, LCg.CompRest prog w A h₀ L m env elt x scope cl { s with heap := g } (fun _ => True) (fun i v => ∃ c u, b[i]? = some c ∧ v = .int (c.toNat : Int) u) (Fin { s with heap := g }) b.size 0 [] news) :
    wpAny (model prog w) A (pyIter (.bytes b t)) (CompAt prog w A h₀ L m env elt x scope cl Fin) E s := by
  refine KBw.pyIter_bytes ⟨_, _, _, _, news, rfl, KBw.walks hh _ b t, hz, fun i h st => let ⟨o, e, _⟩ := st; ⟨o, e⟩, fun i h h' o st e e' => let ⟨o', e1, r⟩ := st; ⟨o', (by rw [e1] at e; rw [e']; exact e.symm), r⟩, ⟨_, Heap.get?_push_size _ rfl, rfl, rfl⟩, ?_, F.push _, (fun p hp => ⟨Heap.get?_push_of_some _ (N p hp).1, (N p hp).2⟩), Nat.ne_of_lt F.ns.lt, next_is_new F, fun p hp => Nat.ne_of_lt (Heap.lt_size (N p hp).1), h _⟩
  rw [Heap.size_push]; exact Nat.lt_succ_self _
end
end Mine
end
section
open Lean Meta Elab PySem PySem.W PyProof.Rows
set_option maxRecDepth 100000
set_option maxHeartbeats 0
set_option Elab.async false
set_option linter.unusedVariables false
namespace Mine
theorem fillAE : (fun (_ : Params → Frag) (_ : OpenLaw) => True) K rw1 := by k_fill; trivial
theorem kw36 : True := by
  k_with_none
  k_with "c_enter" => (refine' code_def ?k1 ?k2 ?k3 ?k4 ?k5 ?kA ?kF ?kK ?k6 ?k7 ?zk8 ?zk9 ?kB ?_ ?c2 ?c3 ?c4 ?c5; (case kA => exact rfl); (case kF => exact rfl); (case kK => assumption); (case k1 => k_asm); (case k2 => k_asm); (case k3 => k_asm); (case k4 => k_asm); (case k5 => k_asm); (case k6 => k_is); (case k7 => k_is); (case zk8 => ktr_room); (case zk9 => first | exact BindsTo.of_eq rfl | exact binds_K (by k_in) rfl (by k_is) rfl rfl rfl | fail "c_enter: the arguments"); (case c5 => decide); (case kB => exact locs rfl); (case c2 => exact rfl); (case c3 => exact rfl); (case c4 => exact rfl); k_whole; intro zg' zL' zh' zFG' zF' zN' zB' zX' zT'; (try dsimp only); (try k_fold))
  k_with "compareOp In str str" => (k_here; (first | with_reducible refine in_ch (by with_reducible assumption) ?_ | with_reducible refine in_nil ?_ | with_reducible refine in_b (b := false) (by decide +kernel) ?_ | with_reducible refine in_b (b := true) (by decide +kernel) ?_))
  k_with "compareOp NotIn str str" => (k_here; (first | with_reducible refine notin_ch (by with_reducible assumption) ?_ | with_reducible refine notin_nil ?_))
  k_with "compareOp Eq str str" => (k_here; (first | with_reducible refine eq_b (by with_reducible assumption) ?_ | with_reducible refine eq_b (b := false) (by decide +kernel) ?_ | with_reducible refine eq_b (b := true) (by decide +kernel) ?_))
  k_with "truthy str" => (k_here; (first | with_reducible refine truthy_ch ?_ | with_reducible refine truthy_nil ?_ | with_reducible refine truthy_p (by with_reducible assumption) (by with_reducible assumption) ?_); intro zk9)
  k_with "s_enter" => (refine' code_defS ?k1 ?k2 ?k3 ?k4 ?k5 ?XB ?TB ?D ?T0 ?kA ?k6 ?k7 ?zk8 ?zk9 ?kB ?_ ?cK ?c2 ?c3 ?c4 ?c5; (case kA => exact rfl); (case k2 => k_asm); (case k1 => k_asm); (case XB => exact Gd.x (by assumption)); (case TB => exact Gd.t (by assumption)); (case D => assumption); (case T0 => exact KtsTurn.refl); (case k3 => k_asm); (case k4 => k_asm); (case k5 => k_asm); (case k6 => k_is); (case k7 => k_is); (case zk8 => ktr_room); (case zk9 => first | exact BindsTo.of_eq rfl | exact binds_K (by k_in) rfl (by k_is) rfl rfl rfl | fail "s_enter: the arguments"); (case kB => exact locs rfl); (case cK => first | exact rfl | assumption); (case c2 => exact rfl); (case c3 => exact rfl); (case c4 => exact rfl); (case c5 => decide); k_whole; intro zg' zL' zh' zFG' zF' zN' zB' zX' zT' zD'; (try dsimp only); (try k_fold))
  trivial
theorem snoc' (c : Nat) (l : List Nat) : (⟨#[c]⟩ : Str) ++ ⟨([] : List Nat).toArray⟩ ++ ⟨l.toArray⟩ = ⟨(c :: l).toArray⟩ := by
  have e : (⟨#[c]⟩ : Str) ++ ⟨([] : List Nat).toArray⟩ = ⟨#[c]⟩ := by show Str.mk _ = _; simp
  rw [e]
  show Str.mk _ = _
  simp
theorem join_ones' : ∀ (l : List Nat), Str.join (Str.ofString "") (l.map fun c => (⟨#[c]⟩ : Str)) = ⟨l.toArray⟩
  | [] => by decide +kernel
  | [c] => rfl
  | c :: d :: r => by
    have ih := join_ones' (d :: r)
    show (⟨#[c]⟩ : Str) ++ Str.ofString "" ++ Str.join (Str.ofString "") ((d :: r).map fun c => (⟨#[c]⟩ : Str)) = _
    rw [ih, ← nilE]
    rw [snoc' ]
theorem join_chars {prog : Program} {w : World} {A : Around} {E : Value → Shared → Prop} {s : Shared} {h₀ : Heap} {L : Addr} {D : Addr} {ys : List Value} {codes : List Nat} {t : Tok} {news : List (Addr × Obj)} {Q : Value → Shared → Prop}
    (N : News h₀ L s.heap news) (hm : (D, LCg.lst ys) ∈ news) (hs : StrsAre ys (codes.map fun c => (⟨#[c]⟩ : Str))) (hn : codes.length ≤ 1000)
    (h : ∀ t' k, Q (.str ⟨codes.toArray⟩ t') { s with toks := k }) : wpAny (model prog w) A (call (.builtin "str.join") [.str (Str.ofString "") t, .ref D]) Q E s := by
  have hl : s.heap.IsList D ys.toArray := ⟨_, (N _ hm).1, rfl, _, rfl⟩
  have hc := hs.carried
  rw [List.map_map] at hc
  refine KT.join_1 (l := codes) (g := fun c => (⟨#[c]⟩ : Str)) hl hc (fun _ _ => rfl) (by omega) fun t' k _ => ?_
  have e : Txt.join (Str.ofString "") (codes.map fun c => (⟨#[c]⟩ : Str)) = ⟨codes.toArray⟩ := by
    rw [← join_ones']
    exact StrLaws.glued_eq_join _ _
  rw [e]
  exact h t' k
theorem byteArr_of (codes : List Nat) : byteArr (codes.map fun c : Nat => (c : Int)) = bytesOf codes := by
  unfold byteArr bytesOf
  rw [List.map_map]
  rfl
theorem bytes_made {prog : Program} {w : World} {A : Around} {E : Value → Shared → Prop} {s : Shared} {h₀ : Heap} {L : Addr} {D : Addr} {ys : List Value} {codes : List Nat} {m : Str → Option Value} {news : List (Addr × Obj)} {Q : Value → Shared → Prop} (hh : A.handled = none)
    (F : Fr h₀ L s.heap m) (N : News h₀ L s.heap news) (hm : (D, LCg.lst ys) ∈ news) (hs : IntsAre ys (codes.map fun c : Nat => (c : Int))) (hc : ∀ c ∈ codes, c < 256) (hn : codes.length ≤ 1000)
    (h : ∀ h' t k, Fr h₀ L h' m → News h₀ L h' news → Q (.bytes (bytesOf codes) t) { s with heap := h', toks := k }) : wpAny (model prog w) A (call (.type "bytes") [.ref D]) Q E s := by
  have hl : s.heap.IsList D ys.toArray := ⟨_, (N _ hm).1, rfl, _, rfl⟩
  have hlen := hs.length
  rw [List.length_map] at hlen
  refine call_bytes_ints hl hs (fun n hn => ?_) (by rw [sizeLine_eq]; omega) hh fun h' t k hk => ?_
  · obtain ⟨c, h1, rfl⟩ := List.mem_map.mp hn
    have := hc c h1
    omega
  · rw [byteArr_of]
    exact h h' t k (F.keeps hk) (N.grown hk)
end Mine
end
section
open Lean Meta Elab PySem PySem.W PyProof.Rows
set_option maxRecDepth 100000
set_option maxHeartbeats 0
set_option Elab.async false
set_option linter.unusedVariables false
namespace Mine
theorem fillAF : (fun (_ : Params → Frag) (_ : OpenLaw) => True) K rw1 := by k_fill; trivial
theorem kw37 : True := by
  k_with_none
  k_with "c_enter" => (refine' code_def ?k1 ?k2 ?k3 ?k4 ?k5 ?kA ?kF ?kK ?k6 ?k7 ?zk8 ?zk9 ?kB ?_ ?c2 ?c3 ?c4 ?c5; (case kA => exact rfl); (case kF => exact rfl); (case kK => assumption); (case k1 => k_asm); (case k2 => k_asm); (case k3 => k_asm); (case k4 => k_asm); (case k5 => k_asm); (case k6 => k_is); (case k7 => k_is); (case zk8 => ktr_room); (case zk9 => first | exact BindsTo.of_eq rfl | exact binds_K (by k_in) rfl (by k_is) rfl rfl rfl | fail "c_enter: the arguments"); (case c5 => decide); (case kB => exact locs rfl); (case c2 => exact rfl); (case c3 => exact rfl); (case c4 => exact rfl); k_whole; intro zg' zL' zh' zFG' zF' zN' zB' zX' zT'; (try dsimp only); (try k_fold))
  k_with "compareOp In str str" => (k_here; (first | with_reducible refine in_ch (by with_reducible assumption) ?_ | with_reducible refine in_nil ?_ | with_reducible refine in_b (b := false) (by decide +kernel) ?_ | with_reducible refine in_b (b := true) (by decide +kernel) ?_))
  k_with "compareOp NotIn str str" => (k_here; (first | with_reducible refine notin_ch (by with_reducible assumption) ?_ | with_reducible refine notin_nil ?_))
  k_with "compareOp Eq str str" => (k_here; (first | with_reducible refine eq_b (by with_reducible assumption) ?_ | with_reducible refine eq_b (b := false) (by decide +kernel) ?_ | with_reducible refine eq_b (b := true) (by decide +kernel) ?_))
  k_with "truthy str" => (k_here; (first | with_reducible refine truthy_ch ?_ | with_reducible refine truthy_nil ?_ | with_reducible refine truthy_p (by with_reducible assumption) (by with_reducible assumption) ?_); intro zk9)
  k_with "s_enter" => (refine' code_defS ?k1 ?k2 ?k3 ?k4 ?k5 ?XB ?TB ?D ?T0 ?kA ?k6 ?k7 ?zk8 ?zk9 ?kB ?_ ?cK ?c2 ?c3 ?c4 ?c5; (case kA => exact rfl); (case k2 => k_asm); (case k1 => k_asm); (case XB => exact Gd.x (by assumption)); (case TB => exact Gd.t (by assumption)); (case D => assumption); (case T0 => exact KtsTurn.refl); (case k3 => k_asm); (case k4 => k_asm); (case k5 => k_asm); (case k6 => k_is); (case k7 => k_is); (case zk8 => ktr_room); (case zk9 => first | exact BindsTo.of_eq rfl | exact binds_K (by k_in) rfl (by k_is) rfl rfl rfl | fail "s_enter: the arguments"); (case kB => exact locs rfl); (case cK => first | exact rfl | assumption); (case c2 => exact rfl); (case c3 => exact rfl); (case c4 => exact rfl); (case c5 => decide); k_whole; intro zg' zL' zh' zFG' zF' zN' zB' zX' zT' zD'; (try dsimp only); (try k_fold))
  trivial
noncomputable def lmP0 : Stmt := litOf (stm f_law_turned_b 0) (by conv => rhs; whnf)
noncomputable def lmP1 : Stmt := litOf (stm f_law_turned_b 1) (by conv => rhs; whnf)
theorem lm_body : f_law_turned_b = [lmP0, lmP1] := by with_unfolding_all rfl
theorem ints_snoc {vs : List Value} {l : List Int} {k : Int} {t : Tok} (h : IntsAre vs l) : IntsAre (vs ++ [.int k t]) (l ++ [k]) := by
  induction h with
  | nil => exact .cons k t .nil
  | cons a u r ih => exact .cons a u ih
theorem kw38 : True := by
  k_with "eval ListComp" => (k_here; k_dflt (refine ListComp_W (F₀ := by k_asm) (by rfl) (by decide) (by rfl) (by decide) (by rfl) ?_))
  trivial
noncomputable def lmL1 : PySem.Expr := litOf (match lmP0 with | .Assign _ (.Call _ (.Call _ (l :: _) _ _ :: _) _ _) _ => l | _ => .Constant .none 0 default) (by conv => rhs; whnf)
noncomputable def lmE1 : PySem.Expr := litOf (match lmL1 with | .ListComp e _ _ _ => e | _ => .Constant .none 0 default) (by conv => rhs; whnf)
noncomputable def lmS1 : Scope := litOf (match lmL1 with | .ListComp _ _ sc _ => sc | _ => default) (by conv => rhs; whnf)
noncomputable def lmL2 : PySem.Expr := litOf (match lmP1 with | .Return (some (.Call _ (l :: _) _ _)) _ => l | _ => .Constant .none 0 default) (by conv => rhs; whnf)
noncomputable def lmE2 : PySem.Expr := litOf (match lmL2 with | .ListComp e _ _ _ => e | _ => .Constant .none 0 default) (by conv => rhs; whnf)
noncomputable def lmS2 : Scope := litOf (match lmL2 with | .ListComp _ _ sc _ => sc | _ => default) (by conv => rhs; whnf)
section
variable {w : World} {mean : ExcName → Option Value} {mg mb : Str → Option Value} {dp un : Nat} {gd : Option (List Code)} {outer : List Env} {A₀ : Around} {base h₀ : Heap} {L : Addr} {m : Str → Option Value} {news : List (Addr × Obj)} {s : Shared} {E : Value → Shared → Prop}
theorem ord_src {x : Str} {t : Tok} {Fin : Shared → List Value → List (Addr × Obj) → Prop} (hz : x.length ≤ 900)
    (B : Below A₀ base outer h₀) (F : Fr h₀ L s.heap m) (X : (K w.params).In h₀) (N : News h₀ L s.heap news) (T : Top q loose mean mg mb h₀)
    (hfin : ∀ g ys, IntsAre ys (x.cps.toList.map fun c : Nat => (c : Int)) → Fin { s with heap := g } ys news) :
    wpAny (model pw w) (ktrTop dp un gd "_law_turned" f_law_turned_s L 762 (.ref 761) [] outer) (pyIter (.str x t)) (CompAt pw w (ktrTop dp un gd "_law_turned" f_law_turned_s L 762 (.ref 761) [] outer) h₀ L m (envOf "_law_turned" f_law_turned_s L 762 (.ref 761)) lmE1 "sign" lmS1 [] Fin) E s := by
  have hxl : x.cps.size = x.cps.toList.length := by rw [Array.length_toList]
  refine str_src rfl (by show x.length ≤ _; rw [sizeLine_eq]; omega) F N fun g => rest_gen (fun i ys => IntsAre ys ((x.cps.toList.take i).map fun c : Nat => (c : Int))) .nil ?_ ?_
  · intro i v I oI C oC D m₂ ys h tk E' hi hP hR hC hx F' N' off ne
    obtain ⟨c, u, hc, rfl⟩ := chars_of hP
    have hnext : ∀ t', IntsAre (ys ++ [.int (c : Nat) t']) ((x.cps.toList.take (i + 1)).map fun c : Nat => (c : Int)) := by
      intro t'
      rw [List.take_add_one, hc]
      simpa using ints_snoc (k := (c : Int)) (t := t') hR
    unfold lmE1 lmS1
    k_steps
    all_goals exact LCg.CompEnd.intro (by k_asm) N' news (fun p hp => hp) off trivial ⟨rfl, hnext _⟩
  · intro ys hR
    rw [hxl, List.take_length] at hR
    exact hfin _ ys hR
theorem bget {codes : List Nat} {i : Nat} {c : UInt8} (hl : ∀ c ∈ codes, c < 256) (h : (bytesOf codes)[i]? = some c) : codes[i]? = some c.toNat := by
  unfold bytesOf at h
  rw [List.getElem?_toArray, List.getElem?_map] at h
  obtain ⟨d, h1, rfl⟩ := Option.map_eq_some_iff.mp h
  rw [h1, toU_toNat (hl d (List.mem_of_getElem? h1))]
theorem chr_src {codes : List Nat} {t : Tok} {Fin : Shared → List Value → List (Addr × Obj) → Prop} (hl : ∀ c ∈ codes, c < 256) (hz : codes.length ≤ 900)
    (B : Below A₀ base outer h₀) (F : Fr h₀ L s.heap m) (X : (K w.params).In h₀) (N : News h₀ L s.heap news) (T : Top q loose mean mg mb h₀)
    (hfin : ∀ g ys, StrsAre ys (codes.map fun c => (⟨#[c]⟩ : Str)) → Fin { s with heap := g } ys news) :
    wpAny (model pw w) (ktrTop dp un gd "_law_turned" f_law_turned_s L 762 (.ref 761) [] outer) (pyIter (.bytes (bytesOf codes) t)) (CompAt pw w (ktrTop dp un gd "_law_turned" f_law_turned_s L 762 (.ref 761) [] outer) h₀ L m (envOf "_law_turned" f_law_turned_s L 762 (.ref 761)) lmE2 "octet" lmS2 [] Fin) E s := by
  refine bytes_src rfl (by rw [bytesOf_size, sizeLine_eq]; omega) F N fun g => rest_gen (fun i ys => StrsAre ys ((codes.take i).map fun c => (⟨#[c]⟩ : Str))) .nil ?_ ?_
  · intro i v I oI C oC D m₂ ys h tk E' hi hP hR hC hx F' N' off ne
    obtain ⟨c8, u, hc8, rfl⟩ := hP
    have hc := bget hl hc8
    have hlt : c8.toNat < 256 := c8.toNat_lt
    generalize c8.toNat = c at *
    have hnext : ∀ t', StrsAre (ys ++ [.str ⟨#[c]⟩ t']) ((codes.take (i + 1)).map fun c => (⟨#[c]⟩ : Str)) := by
      intro t'
      rw [List.take_add_one, hc]
      simpa using kct_snoc (y := (⟨#[c]⟩ : Str)) (t := t') hR
    unfold lmE2 lmS2
    k_steps
    all_goals (exact LCg.CompEnd.intro (by k_asm) N' news (fun p hp => hp) off trivial ⟨rfl, hnext _⟩)
  · intro ys hR
    rw [bytesOf_size, List.take_length] at hR
    exact hfin _ ys hR
end
end Mine
end
section
open Lean Meta Elab PySem PySem.W PyProof.Rows
set_option maxRecDepth 100000
set_option maxHeartbeats 0
set_option Elab.async false
set_option linter.unusedVariables false
namespace Mine
theorem fillAG : (fun (_ : Params → Frag) (_ : OpenLaw) => True) K rw1 := by k_fill; trivial
theorem kw39 : True := by
  k_with_none
  k_with "c_enter" => (refine' code_def ?k1 ?k2 ?k3 ?k4 ?k5 ?kA ?kF ?kK ?k6 ?k7 ?zk8 ?zk9 ?kB ?_ ?c2 ?c3 ?c4 ?c5; (case kA => exact rfl); (case kF => exact rfl); (case kK => assumption); (case k1 => k_asm); (case k2 => k_asm); (case k3 => k_asm); (case k4 => k_asm); (case k5 => k_asm); (case k6 => k_is); (case k7 => k_is); (case zk8 => ktr_room); (case zk9 => first | exact BindsTo.of_eq rfl | exact binds_K (by k_in) rfl (by k_is) rfl rfl rfl | fail "c_enter: the arguments"); (case c5 => decide); (case kB => exact locs rfl); (case c2 => exact rfl); (case c3 => exact rfl); (case c4 => exact rfl); k_whole; intro zg' zL' zh' zFG' zF' zN' zB' zX' zT'; (try dsimp only); (try k_fold))
  k_with "compareOp In str str" => (k_here; (first | with_reducible refine in_ch (by with_reducible assumption) ?_ | with_reducible refine in_nil ?_ | with_reducible refine in_b (b := false) (by decide +kernel) ?_ | with_reducible refine in_b (b := true) (by decide +kernel) ?_))
  k_with "compareOp NotIn str str" => (k_here; (first | with_reducible refine notin_ch (by with_reducible assumption) ?_ | with_reducible refine notin_nil ?_))
  k_with "compareOp Eq str str" => (k_here; (first | with_reducible refine eq_b (by with_reducible assumption) ?_ | with_reducible refine eq_b (b := false) (by decide +kernel) ?_ | with_reducible refine eq_b (b := true) (by decide +kernel) ?_))
  k_with "truthy str" => (k_here; (first | with_reducible refine truthy_ch ?_ | with_reducible refine truthy_nil ?_ | with_reducible refine truthy_p (by with_reducible assumption) (by with_reducible assumption) ?_); intro zk9)
  k_with "s_enter" => (refine' code_defS ?k1 ?k2 ?k3 ?k4 ?k5 ?XB ?TB ?D ?T0 ?kA ?k6 ?k7 ?zk8 ?zk9 ?kB ?_ ?cK ?c2 ?c3 ?c4 ?c5; (case kA => exact rfl); (case k2 => k_asm); (case k1 => k_asm); (case XB => exact Gd.x (by assumption)); (case TB => exact Gd.t (by assumption)); (case D => assumption); (case T0 => exact KtsTurn.refl); (case k3 => k_asm); (case k4 => k_asm); (case k5 => k_asm); (case k6 => k_is); (case k7 => k_is); (case zk8 => ktr_room); (case zk9 => first | exact BindsTo.of_eq rfl | exact binds_K (by k_in) rfl (by k_is) rfl rfl rfl | fail "s_enter: the arguments"); (case kB => exact locs rfl); (case cK => first | exact rfl | assumption); (case c2 => exact rfl); (case c3 => exact rfl); (case c4 => exact rfl); (case c5 => decide); k_whole; intro zg' zL' zh' zFG' zF' zN' zB' zX' zT' zD'; (try dsimp only); (try k_fold))
  k_with "eval ListComp" => (k_here; k_dflt (refine ListComp_W (F₀ := by k_asm) (by rfl) (by decide) (by rfl) (by decide) (by rfl) ?_))
  k_with "pyIter str" => (k_here; k_dflt (refine' ord_src ?rz ?rB ?rF ?rX ?rN ?rT ?_; (case rz => assumption); (case rB => k_asm); (case rF => k_asm); (case rX => k_asm); (case rN => k_asm); (case rT => k_asm); k_whole); intro zg9 zys9 zhi9; (try dsimp only))
  k_with "pyIter bytes" => (k_here; k_dflt (refine' chr_src ?rl ?rz ?rB ?rF ?rX ?rN ?rT ?_; (case rl => assumption); (case rz => assumption); (case rB => k_asm); (case rF => k_asm); (case rX => k_asm); (case rN => k_asm); (case rT => k_asm); k_whole); intro zg9 zys9 zhi9; (try dsimp only))
  k_with "call type:bytes" => (k_here; k_dflt (refine' bytes_made ?rh ?rF ?rN ?rm ?rs ?rc ?rn ?_; (case rh => rfl); (case rF => k_asm); (case rN => k_asm); (case rm => exact List.mem_cons_self); (case rs => assumption); (case rc => assumption); (case rn => assumption); k_whole); intro zh9 zt9 zk9 zF9 zN9; (try dsimp only))
  k_with "call builtin:str.join" => (k_here; k_dflt (refine' join_chars ?rN ?rm ?rs ?rn ?_; (case rN => k_asm); (case rm => exact List.mem_cons_self); (case rs => assumption); (case rn => assumption); k_whole); intro zt9 zk9; (try dsimp only))
  trivial
section
variable {w : World} {mean : ExcName → Option Value} {mg mb : Str → Option Value} {dp un : Nat} {gd : Option (List Code)} {cn : Str} {cs : Scope} {a : Addr} {ccd : Value} {cl : List (Str × Addr)} {outer : List Env} {A₀ : Around} {base h₀ : Heap} {L : Addr} {m : Str → Option Value} {news : List (Addr × Obj)} {s : Shared} {Q E : Value → Shared → Prop}
theorem mirror_c {x : Str} {t : Tok} (hl : ∀ c ∈ x.cps.toList, c < 256) (hz : x.length ≤ 900) (h0 : 0 < x.length)
    (B : Below A₀ base outer h₀) (F : Fr h₀ L s.heap m) (X : (K w.params).In h₀) (N : News h₀ L s.heap news) (T : Top q loose mean mg mb h₀) (hk : cs.kind = .function)
    (hd : dp + 14 < recursionLimit) (hu : un + 120 < cLine)
    (hret : ∀ t h' tk', Fr h₀ L h' m → News h₀ L h' news → Q (.str ⟨x.cps.toList.reverse.toArray⟩ t) { s with heap := h', toks := tk' }) :
    wpG (model pw w) (ktrTop dp un gd cn cs L a ccd cl outer) (call (.ref 762) [.str x t]) Q E s := by
  have xl : x.cps.toList.length = x.length := by rw [Array.length_toList]; rfl
  have hz2 : x.cps.toList.length ≤ 1000 := by omega
  refine wpG_call ?_
  refine' code_defGx B F X N T rfl rfl hk ?k6 ?k7 ?k8 ?k9 ?kB ?_ ?c2 ?c3 ?c4 ?c5
  case k6 => k_is
  case k7 => k_is
  case k8 => ktr_room
  case k9 => exact BindsTo.of_eq rfl
  case c5 => decide
  case kB => exact locs rfl
  case c2 => exact rfl
  case c3 => exact rfl
  case c4 => exact rfl
  intro g' L' h' FG' F' N' B' X' T'
  dsimp only
  rw [lm_body]
  refine wpG_execs_cons ?_
  show wpG _ _ (exec (.Assign [.Name "octets" _] (.Call (.Name "_byteswap" _) _ [] _) _) _) _ _ _
  refine wpG_Assign_Name (wpG_Call ?_)
  k_steps
  refine wpG_callWith_K (K := K w.params) (by k_is) (wpG.of ?_)
  k_steps
  have hl2 : ∀ c ∈ x.cps.toList.reverse, c < 256 := fun c hc => hl c (List.mem_reverse.mp hc)
  have hz3 : x.cps.toList.reverse.length ≤ 900 := by rw [List.length_reverse]; omega
  have hz4 : x.cps.toList.reverse.length ≤ 1000 := by omega
  refine bswap_c (wd := x.length) (R := 1) hl hz2 h0 (by omega) (by rw [xl, Nat.one_mul]) B' (by k_asm) X' (by k_asm) T' rfl ?rd ?ru ?_
  case rd => ktr_room
  case ru => ktr_units
  intro t5 h5 tk5 F5 N5
  rw [← xl, swp_rev]
  dsimp only
  k_steps
  refine wpG.of ?_
  unfold lmP1
  k_steps
  all_goals (exact hret _ _ _ (by k_asm) (news_tail (news_tail (by k_asm))))
end
end Mine
end
section
open Lean Meta Elab PySem PySem.W PyProof.Rows PySem.Calls
set_option maxRecDepth 100000
set_option maxHeartbeats 0
set_option Elab.async false
set_option linter.unusedVariables false
namespace Mine
section
variable {prog : Program} {w : World} {A : Around} {s : Shared}
/-- entry of a function with cells, from anywhere -/
theorem codeG_call_cells {R : Result → Shared → Prop} {name qual : Str} {params : Arguments} {body : List Stmt} {scope : Scope} {dV kV doc pm cdv ct : Value} {an : Option Addr} {fo : Obj} {f : Addr} {args : Args} {binds : List (Str × Value)}
    (hroom : A.depth < recursionLimit) (ho : s.heap.get? f = some fo) (hd : fo.data = .func (fnX name qual params body scope [] dV kV doc pm an cdv ct)) (hlim : s.heap.NoLimit) (hcd : s.heap.CodeRec cdv qual)
    (hbind : BindsTo s (fnX name qual params body scope [] dV kV doc pm an cdv ct) args binds)
    (hkind : ∀ n, ∀ x ∈ binds, scope.names.lookup x.1 = some .local ∨ (scope.names.lookup x.1 = some .cell ∧ ((cellsFrom n scope.names []).lookup x.1).isSome = true))
    (hnd : ((cellsFrom 0 scope.names []).map (·.1)).Nodup)
    (h : ∀ L' h₁ tk cells, Fr s.heap L' h₁ (bindL (envOfC qual scope L' f cdv).kindOf binds fun _ => none) → News s.heap L' h₁ cells →
      CellsAre (bindC (envOfC qual scope L' f cdv).kindOf binds fun _ => none) (cellsFrom (L' + 1) scope.names []) cells →
      wpG (model prog w) (A.deeper (envOfC qual scope L' f cdv)) (execs body (envOfC qual scope L' f cdv)) (fun fl s' => R (.ok (.ret (match fl with | .ret v => v | _ => .none))) s')
        (fun e s' => wpAny (model prog w) (A.deeper (envOfC qual scope L' f cdv)) (leaving (envOfC qual scope L' f cdv) e) (fun _ s'' => R (.error e) s'') (fun e' s'' => R (.error e') s'') s')
        { s with heap := h₁, toks := tk })
    (hco : scope.isCoroutine = false) (hgen : scope.isGenerator = false) (hk : scope.kind = .function) : codeG (model prog w) A (.call (.ref f) args) R s := by
  refine codeG_of_tree (wpG.of ?_)
  show wpAny _ A.in1 (callAny (.ref f) args) _ _ s
  simp only [callAny]
  refine wpAny_bind (wpAny_load ho ?_)
  obtain ⟨c, oc, vs, tq, hc, hoc, hdc, hq⟩ := hcd
  simp only [hd, callFunction, hco, hgen]
  have hb : wpAny (model prog w) A.in1 (bindArgs (fnX name qual params body scope [] dV kV doc pm an cdv ct) args) (fun binds s₁ =>
      wpAny (model prog w) A.in1 (newFunctionEnv scope mainGlobals [] binds (qual ++ ".<locals>.") (some f) cdv none builtinsNs)
        (fun env s₂ => s₂.heap.NoLimit ∧ codeG (model prog w) A (.func body env) R s₂) (fun e s' => R (.error e) s') s₁) (fun e s' => R (.error e) s') s := by
    refine hbind _ _ _ _ (wpAny_newFunctionEnv_cells hk (hkind _) fun env' he s' x => ?_)
    subst he
    refine ⟨hlim.keeps x.toInCall.keep, codeG_func ?_⟩
    obtain ⟨h₁, tk, rfl, _⟩ := x.done
    obtain ⟨cells, NC, Y⟩ := Cl.news (h₀ := s.heap) (Nat.le_refl _) fun n c hm => ⟨x.cell n c (lookup_of_mem_nodup (cellsFrom_names scope.names 0 (s.heap.objs.size + 1) [] [] rfl ▸ hnd) hm), x.above n c hm⟩
    exact h s.heap.objs.size h₁ tk cells ⟨x.toInCall.ns, x.toInCall.keep, Nat.le_refl _⟩ NC Y
  rw [hc] at hb ⊢
  refine wpAny_bind (m := field (.ref c) 1) (wpAny_field hoc hdc hq (wpAny_bind (wpAny_pure ?_)))
  exact wpAny_bind (wpAny_mono hb (fun binds s₁ h₁ => wpAny_bind (wpAny_mono h₁ (fun env s₂ h₂ => wpAny_bind (wpAny_enterFrame h₂.1 hroom
    (wpAny_pure (And.intro rfl ⟨rfl, h₂.2⟩)))) fun _ _ h' => h')) fun _ _ h' => h')
end
end Mine
end
section
open Lean Meta Elab PySem PySem.W PyProof.Rows PySem.Calls
set_option maxRecDepth 100000
set_option maxHeartbeats 0
set_option Elab.async false
set_option linter.unusedVariables false
namespace Mine
abbrev riO (n i : Nat) : Obj := { cls := .type "range_iterator", data := .fields #[rawInt (0 + (i : Nat) * 1), rawInt ((n : Int) - (i : Nat)), rawInt 1] }
theorem newsSub {h₀ h : Heap} {L : Addr} {l l' : List (Addr × Obj)} (N : News h₀ L h l) (sub : ∀ p ∈ l', p ∈ l) : News h₀ L h l' := fun p hp => N p (sub p hp)
theorem rng_itN {prog : Program} {w : World} {A : Around} {E : Value → Shared → Prop} {s : Shared} {h₀ : Heap} {L : Addr} {m : Str → Option Value} {news : List (Addr × Obj)} {r : Addr} {t u v : Tok} {n : Nat} {Q : Value → Shared → Prop} (hn : n ≤ 1000)
    (hr : IsRange s.heap r 0 (n : Int) 1 t u v) (F : Fr h₀ L s.heap m) (N : News h₀ L s.heap news)
    (h : ∀ I h', h'.get? I = some (riO n 0) → Fr h₀ L h' m → News h₀ L h' news → (∀ p ∈ news, p.1 ≠ I) → L ≠ I → h₀.get? I = none → Q (.ref I) { s with heap := h' }) : wpAny (model prog w) A (pyIter (.ref r)) Q E s := by
  have e : Builtin.Range.rangeSize 0 (n : Int) 1 = (n : Int) := by rw [rangeSize_nat]; omega
  refine wpAny_pyIter_range hr (small_c (k := (n : Int)) (by omega) (by omega) (by omega) (by omega) e (by omega) (by omega)) ?_
  refine h _ _ ?_ (F.push _) (fun p hp => ⟨Heap.get?_push_of_some _ (N p hp).1, (N p hp).2⟩) (fun p hp => Nat.ne_of_lt (Heap.lt_size (N p hp).1)) (Nat.ne_of_lt F.ns.lt) (next_is_new F)
  rw [e]
  have z : riO n 0 = { cls := .type "range_iterator", data := .fields #[rawInt 0, rawInt (n : Int), rawInt 1] } := by simp [riO]
  rw [z]
  exact Heap.get?_push_size _ rfl
section
variable {prog : Program} {w : World} {A : Around} {E : Value → Shared → Prop} {s : Shared} {R : Result → Shared → Prop}
variable {elt ta ia tb ib : PySem.Expr} {scope : Scope} {pos : Pos} {it acc : Value} {env : Env}
theorem turn_app0 : compTurn (.ListComp elt [⟨ta, ia, [], 0⟩, ⟨tb, ib, [], 0⟩] scope pos) 0 it acc env = (do
    standAt ia.pos
    match ← pyNext it with
    | none => pure (.done .next)
    | some v =>
      letOwnedTupleGo ta it v
      assign ta env v
      let mut ok := true
      for c in ([] : List PySem.Expr) do
        if ok then ok ← isTrue c env (eval c env)
      if ok then
        let x ← eval ib env
        standAt ib.pos
        let x ← foldedSetIterable ib env x
        let _ ← runOwn (.compStart (.ListComp elt [⟨ta, ia, [], 0⟩, ⟨tb, ib, [], 0⟩] scope pos) 1 (← holding [x] (pyIter x)) acc env) env
      again (.compLoop (.ListComp elt [⟨ta, ia, [], 0⟩, ⟨tb, ib, [], 0⟩] scope pos) 0 it acc env)) := by rfl
theorem turn_app1 : compTurn (.ListComp elt [⟨ta, ia, [], 0⟩, ⟨tb, ib, [], 0⟩] scope pos) 1 it acc env = (do
    standAt ib.pos
    match ← pyNext it with
    | none => pure (.done .next)
    | some v =>
      letOwnedTupleGo tb it v
      assign tb env v
      let mut ok := true
      for c in ([] : List PySem.Expr) do
        if ok then ok ← isTrue c env (eval c env)
      if ok then
        (do let _ ← call (.builtin "list.append") [acc, ← eval elt env])
      again (.compLoop (.ListComp elt [⟨ta, ia, [], 0⟩, ⟨tb, ib, [], 0⟩] scope pos) 1 it acc env)) := by rfl
theorem loop_app1 (I : Nat → Shared → Prop)
    (turn : ∀ n s, I n s → wpAny (model prog w) A (pyNext it) (fun r s₁ => match r with
      | none => R (.ok .next) s₁
      | some v => wpAny (model prog w) A (assign tb env v) (fun _ s₂ => wpAny (model prog w) A (eval elt env) (fun x s₃ =>
          wpAny (model prog w) A (call (.builtin "list.append") [acc, x]) (fun _ s₄ => ∃ m, m < n ∧ I m s₄) (notedBy (model prog w) A env fun e s' => R (.error e) s') s₃) (notedBy (model prog w) A env fun e s' => R (.error e) s') s₂)
          (notedBy (model prog w) A env fun e s' => R (.error e) s') s₁) (notedBy (model prog w) A env fun e s' => R (.error e) s') s)
    (n : Nat) (h : I n s) (ht : ∀ v, letOwnedTupleGo tb it v = pure ()) :
    codeAny (model prog w) A (.compLoop (.ListComp elt [⟨ta, ia, [], 0⟩, ⟨tb, ib, [], 0⟩] scope pos) 1 it acc env) R s := by
  refine codeAny_loop rfl I (fun n s hI => ?_) n h
  show wpAny _ A ((compTurn (.ListComp elt [⟨ta, ia, [], 0⟩, ⟨tb, ib, [], 0⟩] scope pos) 1 it acc env).onRaise (fun x => do noteFrame x env; theTreesLotGoes x)) _ _ s
  refine wpAny_noted ?_
  rw [turn_app1]
  refine wpAny_bind (wpAny_standAt (wpAny_bind (wpAny_mono (turn n s hI) (fun r s₁ h₁ => ?_) fun _ _ h' => h')))
  cases r with
  | none => exact wpAny_pure h₁
  | some v =>
    refine wpAny_bind (wpAny_of_eq (ht v) ?_)
    refine wpAny_bind (wpAny_mono h₁ (fun _ s₂ h₂ => wpAny_bind (wpAny_tests_nil ?_)) fun _ _ h' => h')
    simp only [if_true]
    first
      | exact wpAny_bind (wpAny_bind (wpAny_mono h₂ (fun x s₃ h₃ => wpAny_bind (wpAny_mono h₃ (fun _ s₄ h₄ => wpAny_pure (wpAny_pure ⟨rfl, h₄⟩)) fun _ _ h' => h')) fun _ _ h' => h'))
      | exact wpAny_bind (wpAny_mono h₂ (fun x s₃ h₃ => wpAny_bind (wpAny_mono h₃ (fun _ s₄ h₄ => (wpAny_pure ⟨rfl, h₄⟩)) fun _ _ h' => h')) fun _ _ h' => h')
theorem loop_app0 (I : Nat → Shared → Prop)
    (turn : ∀ n s, I n s → wpAny (model prog w) A (pyNext it) (fun r s₁ => match r with
      | none => R (.ok .next) s₁
      | some v => wpAny (model prog w) A (assign ta env v) (fun _ s₂ => wpAny (model prog w) A (eval ib env) (fun x s₃ => wpAny (model prog w) A (pyIter x) (fun it2 s₄ =>
          wpAny (model prog w) A (runOwn (.compStart (.ListComp elt [⟨ta, ia, [], 0⟩, ⟨tb, ib, [], 0⟩] scope pos) 1 it2 acc env) env) (fun _ s₅ => ∃ m, m < n ∧ I m s₅) (notedBy (model prog w) A env fun e s' => R (.error e) s') s₄)
          (notedBy (model prog w) A env fun e s' => R (.error e) s') s₃) (notedBy (model prog w) A env fun e s' => R (.error e) s') s₂)
          (notedBy (model prog w) A env fun e s' => R (.error e) s') s₁) (notedBy (model prog w) A env fun e s' => R (.error e) s') s)
    (n : Nat) (h : I n s) (ht : ∀ v, letOwnedTupleGo ta it v = pure ()) (hf : ∀ x, foldedSetIterable ib env x = pure x) :
    codeAny (model prog w) A (.compLoop (.ListComp elt [⟨ta, ia, [], 0⟩, ⟨tb, ib, [], 0⟩] scope pos) 0 it acc env) R s := by
  refine codeAny_loop rfl I (fun n s hI => ?_) n h
  show wpAny _ A ((compTurn (.ListComp elt [⟨ta, ia, [], 0⟩, ⟨tb, ib, [], 0⟩] scope pos) 0 it acc env).onRaise (fun x => do noteFrame x env; theTreesLotGoes x)) _ _ s
  refine wpAny_noted ?_
  rw [turn_app0]
  refine wpAny_bind (wpAny_standAt (wpAny_bind (wpAny_mono (turn n s hI) (fun r s₁ h₁ => ?_) fun _ _ h' => h')))
  cases r with
  | none => exact wpAny_pure h₁
  | some v =>
    refine wpAny_bind (wpAny_of_eq (ht v) ?_)
    refine wpAny_bind (wpAny_mono h₁ (fun _ s₂ h₂ => wpAny_bind (wpAny_tests_nil ?_)) fun _ _ h' => h')
    show wpAny _ A (_ >>= _) _ _ s₂
    refine wpAny_bind (wpAny_mono h₂ (fun x s₃ h₃ => wpAny_bind (wpAny_standAt (wpAny_bind (wpAny_of_eq (hf x) (wpAny_bind (wpAny_holding (wpAny_mono h₃ (fun it2 s₄ h₄ => ?_) fun _ _ h' => h'))))))) fun _ _ h' => h')
    exact wpAny_bind (wpAny_mono h₄ (fun _ s₅ h₅ => wpAny_pure ⟨rfl, h₅⟩) fun _ _ h' => h')
theorem start_app1 (h0 : codeAny (model prog w) A (.compLoop (.ListComp elt [⟨ta, ia, [], 0⟩, ⟨tb, ib, [], 0⟩] scope pos) 1 it acc env) R s)
    (h : wpAny (model prog w) A (pyIter it) (fun it' s' => codeAny (model prog w) A (.compLoop (.ListComp elt [⟨ta, ia, [], 0⟩, ⟨tb, ib, [], 0⟩] scope pos) 1 it' acc env) R s')
      (notedBy (model prog w) A env fun x s' => R (.error x) s') s) :
    codeAny (model prog w) A (.compStart (.ListComp elt [⟨ta, ia, [], 0⟩, ⟨tb, ib, [], 0⟩] scope pos) 1 it acc env) R s := by
  refine codeAny_of_tree ?_
  show wpAny _ _ ((compStart (.ListComp elt [⟨ta, ia, [], 0⟩, ⟨tb, ib, [], 0⟩] scope pos) 1 it acc env).onRaise (fun x => do noteFrame x env; standAt theWindowsPlace)) _ _ s
  refine wpAny_notedAt ?_
  unfold compStart
  show wpAny _ _ (ask >>= _) _ _ s
  refine wpAny_bind (wpAny_askSetting (wpAny_ite ?_))
  split
  · first
      | exact wpAny_bind (wpAny_pure (wpAny_pure (And.intro rfl h0)))
      | exact wpAny_pure (And.intro rfl h0)
  · first
      | exact wpAny_bind (wpAny_rule (wpAny_bind (wpAny_standAt (wpAny_bind (wpAny_mono h (fun it' s' h' => wpAny_pure (And.intro rfl h')) fun _ _ x => x)))))
      | (refine wpAny_bind (wpAny_rule ?_); show wpAny _ _ (standAt ib.pos >>= _) _ _ s; exact wpAny_bind (wpAny_standAt (wpAny_bind (wpAny_mono h (fun it' s' h' => wpAny_pure (And.intro rfl h')) fun _ _ x => x))))
end
end Mine
end
section
open Lean Meta Elab PySem PySem.W PyProof.Rows PySem.Calls
set_option maxRecDepth 100000
set_option maxHeartbeats 0
set_option Elab.async false
set_option linter.unusedVariables false
namespace Mine
def acc2 (f : Nat → Nat → Int) (n2 i j : Nat) : List Int := ((List.range i).flatMap fun a => (List.range n2).map (f a)) ++ (List.range j).map (f i)
theorem acc2_step (f : Nat → Nat → Int) (n2 i j : Nat) : acc2 f n2 i (j + 1) = acc2 f n2 i j ++ [f i j] := by simp [acc2, List.range_succ]
theorem acc2_row (f : Nat → Nat → Int) (n2 i : Nat) : acc2 f n2 i n2 = acc2 f n2 (i + 1) 0 := by simp [acc2, List.range_succ]
theorem acc2_len (f : Nat → Nat → Int) (n2 i j : Nat) : (acc2 f n2 i j).length = i * n2 + j := by
  induction i with
  | zero => simp [acc2]
  | succ i ih =>
    have e : acc2 f n2 (i + 1) j = (acc2 f n2 i 0 ++ (List.range n2).map (f i)) ++ (List.range j).map (f (i + 1)) := by simp [acc2, List.range_succ]
    have e2 : (acc2 f n2 i j).length = (acc2 f n2 i 0).length + j := by simp [acc2]
    rw [e]
    simp only [List.length_append, List.length_map, List.length_range]
    rw [Nat.succ_mul]
    omega
theorem acc2_sz (f : Nat → Nat → Int) {n1 n2 i j : Nat} (h1 : n1 ≤ 100) (h2 : n2 ≤ 100) (hi : i ≤ n1) (hj : j ≤ n2) : (acc2 f n2 i j).length ≤ sizeLine := by
  rw [acc2_len, sizeLine_eq]
  have := Nat.mul_le_mul (Nat.le_trans hi h1) h2
  omega
theorem ints_snocG {vs : List Value} {l : List Int} {k : Int} {t : Tok} (h : IntsAre vs l) : IntsAre (vs ++ [.int k t]) (l ++ [k]) := by
  induction h with
  | nil => exact .cons k t .nil
  | cons a u r ih => exact .cons a u ih
section
variable {prog : Program} {w : World} {A : Around} {E : Value → Shared → Prop} {s : Shared} {h₀ : Heap} {L : Addr} {m m₂ : Str → Option Value} {env : Env} {scope : Scope} {cl : List (Str × Addr)} {C D I I1 I2 : Nat} {oC oI o1 : Obj}
theorem set_nm {y : Str} {v : Value} {Q : Unit → Shared → Prop} {p : Pos} {tl : List (Addr × Obj)} {h h₂ : Heap} {tk : Nat} (hl : scope.names.lookup y = some .local) (hkind : scope.kind = .function) (hC : LCg.NsObj oC m₂)
    (F : Fr h₀ L h m) (N : News h₀ L h ((C, oC) :: tl)) (hk : ∀ b o, b ∉ [I] → h.get? b = some o → h₂.get? b = some o) (hI : h₂.get? I = some oI) (off : ∀ p ∈ (C, oC) :: tl, p.1 ≠ I) (hL : L ≠ I) (h0 : h₀.get? I = none) (offC : ∀ p ∈ tl, p.1 ≠ C)
    (hq : ∀ oC' h' tk', LCg.NsObj oC' (fun z => if z = y then some v else m₂ z) → Fr h₀ L h' m → News h₀ L h' ((C, oC') :: tl) → h'.get? I = some oI → Q () { s with heap := h', toks := tk' }) :
    wpAny (model prog w) A (assign (.Name y p) (compEnvC scope cl C env) v) Q E { s with heap := h₂, toks := tk } := by
  have F₂ := LCg.fr_but F hk hL h0
  have N₂ := LCg.news_but N hk off
  have zC := N₂ _ List.mem_cons_self
  refine wpAny_assign_Name (wpAny_storeName_local (lookup_relabel_local hl) (hC.ns zC.1) (fun h₃ hn₃ hs₃ => ?_) (by simp [compEnvC, relabel, hkind]))
  obtain ⟨oC₃, heC, hoC₃⟩ := LCg.ns_obj hn₃
  refine hq oC₃ h₃ _ hoC₃ (F₂.change hs₃ zC.2.1 zC.2.2) (fun p hp => ?_) (hs₃.extBut _ _ (fun q => off _ List.mem_cons_self q.symm) hI)
  rcases List.mem_cons.mp hp with rfl | hp
  · exact ⟨heC, zC.2⟩
  · have z := N₂ p (List.mem_cons_of_mem _ hp)
    exact ⟨hs₃.extBut _ _ (offC p hp) z.1, z.2⟩
/-- the element of a comprehension of two ranges, in the turn (i, j) -/
def Elt2 (prog : Program) (w : World) (A : Around) (h₀ : Heap) (L : Addr) (m : Str → Option Value) (env : Env) (elt : PySem.Expr) (x y : Str) (scope : Scope) (cl : List (Str × Addr)) (s : Shared) (news : List (Addr × Obj)) (f : Nat → Nat → Int) (n1 n2 : Nat) : Prop :=
  ∀ (i j : Nat) (C : Nat) (oC : Obj) m₂ h tk rest t3 t4 (E' : Value → Shared → Prop), i < n1 → j < n2 → LCg.NsObj oC m₂ → m₂ x = some (.int (i : Nat) t3) → m₂ y = some (.int (j : Nat) t4) → Fr h₀ L h m → News h₀ L h ((C, oC) :: (news ++ rest)) →
    wpAny (model prog w) A (eval elt (compEnvC scope cl C env)) (fun v s' => ∃ t h' tk', v = .int (f i j) t ∧ s' = { s with heap := h', toks := tk' } ∧ Fr h₀ L h' m ∧ News h₀ L h' ((C, oC) :: (news ++ rest))) E' { s with heap := h, toks := tk }
theorem two_in {x y : Str} {px py : Pos} {ra rb elt : PySem.Expr} {pos : Pos} {n1 n2 i : Nat} {f : Nat → Nat → Int} {ys : List Value} {t3 : Tok} {R : Result → Shared → Prop} {news : List (Addr × Obj)}
    (hh : A.handled = none) (hkind : scope.kind = .function) (hy : scope.names.lookup y = some .local) (hxy : x ≠ y) (h1 : n1 ≤ 100) (h2 : n2 ≤ 100) (hi : i < n1)
    (helt : Elt2 prog w A h₀ L m env elt x y scope cl s news f n1 n2)
    (hC : LCg.NsObj oC m₂) (mx : m₂ x = some (.int (i : Nat) t3)) (hys : IntsAre ys (acc2 f n2 i 0))
    (F : Fr h₀ L s.heap m) (N : News h₀ L s.heap ((C, oC) :: (D, LCg.lst ys) :: (I1, o1) :: news))
    (hI : s.heap.get? I2 = some (riO n2 0)) (off2 : ∀ (o o' : Obj), ∀ p ∈ (C, o) :: (D, o') :: (I1, o1) :: news, p.1 ≠ I2) (hL : L ≠ I2) (h0 : h₀.get? I2 = none)
    (offC : ∀ (o' : Obj), ∀ p ∈ (D, o') :: (I1, o1) :: news, p.1 ≠ C) (offD : ∀ p ∈ (I1, o1) :: news, p.1 ≠ D)
    (hR : ∀ h' tk' oC' m' ys', LCg.NsObj oC' m' → IntsAre ys' (acc2 f n2 (i + 1) 0) → Fr h₀ L h' m → News h₀ L h' ((C, oC') :: (D, LCg.lst ys') :: (I1, o1) :: news) → R (.ok .next) { s with heap := h', toks := tk' }) :
    codeAny (model prog w) A (.compLoop (.ListComp elt [⟨.Name x px, ra, [], 0⟩, ⟨.Name y py, rb, [], 0⟩] scope pos) 1 (.ref I2) (.ref D) (compEnvC scope cl C env)) R s := by
  have W := LCg.range_walks (prog := prog) (w := w) (A := A) (I := I2) hh 0 n2
  refine loop_app1 (fun k s' => ∃ j h' tk' oC' m' ys', s' = { s with heap := h', toks := tk' } ∧ j ≤ n2 ∧ k = n2 + 1 - j ∧ h'.get? I2 = some (riO n2 j) ∧ LCg.NsObj oC' m' ∧ m' x = some (.int (i : Nat) t3) ∧ IntsAre ys' (acc2 f n2 i j) ∧ Fr h₀ L h' m ∧ News h₀ L h' ((C, oC') :: (D, LCg.lst ys') :: (I1, o1) :: news))
    ?_ (n2 + 1) ⟨0, s.heap, s.toks, oC, m₂, ys, rfl, by omega, rfl, hI, hC, mx, hys, F, N⟩ (by intro _; rfl)
  rintro k s' ⟨j, h', tk', oC', m', ys', rfl, hj, rfl, hI', hC', mx', hys', F', N'⟩
  by_cases hlt : j < n2
  · refine W.item j _ _ _ hlt hI' fun v h₂ tk₂ hPv hst₂ hk₂ => ?_
    obtain ⟨t, rfl⟩ := hPv
    have hI₂ : h₂.get? I2 = some (riO n2 (j + 1)) := hst₂
    refine set_nm (I := I2) hy hkind hC' F' N' hk₂ hI₂ (off2 _ _) hL h0 (offC _) fun oC₃ h₃ tk₃ hC₃ F₃ N₃ hI₃ => ?_
    have e : (0 : Int) + (j : Int) = ((j : Nat) : Int) := by omega
    refine wpAny_mono (helt i j C oC₃ _ h₃ tk₃ [(D, LCg.lst ys'), (I1, o1), (I2, riO n2 (j + 1))] t3 t _ hi hlt hC₃ ((if_neg hxy).trans mx') ((if_pos rfl).trans (by rw [e])) F₃ ?_) (fun v s₄ hq => ?_) fun _ _ e => e
    · intro p hp
      simp only [List.mem_cons, List.mem_append, List.not_mem_nil, or_false] at hp
      rcases hp with rfl | hp | rfl | rfl | rfl
      · exact N₃ _ (by simp)
      · exact N₃ _ (by simp [hp])
      · exact N₃ _ (by simp)
      · exact N₃ _ (by simp)
      · exact ⟨hI₃, Ne.symm hL, h0⟩
    · obtain ⟨t5, h₄, tk₄, rfl, rfl, F₄, N₄⟩ := hq
      have zD := N₄ (D, LCg.lst ys') (by simp)
      have zI := (N₄ (I2, riO n2 (j + 1)) (by simp)).1
      have zC := N₄ (C, oC₃) (by simp)
      have hlen : ys'.length = (acc2 f n2 i j).length := hys'.length
      refine append_at (hsz := by show ys'.toArray.size ≤ sizeLine; rw [List.size_toArray, hlen]; exact acc2_sz f h1 h2 (Nat.le_of_lt hi) hj) zD.1 fun h₅ hs₅ hD₅ => ?_
      have hDI : I2 ≠ D := fun q => off2 oC (LCg.lst []) (D, LCg.lst []) (by simp) q.symm
      have hDC : C ≠ D := fun q => offC (LCg.lst []) (D, LCg.lst []) (by simp) q.symm
      refine ⟨n2 + 1 - (j + 1), by omega, j + 1, h₅, tk₄, oC₃, _, ys' ++ [.int (f i j) t5], rfl, hlt, rfl, hs₅.extBut _ _ hDI zI, hC₃, (if_neg hxy).trans mx', ?_, F₄.change hs₅ zD.2.1 zD.2.2, fun p hp => ?_⟩
      · rw [acc2_step]; exact ints_snocG hys'
      · simp only [List.mem_cons] at hp
        rcases hp with rfl | rfl | hp
        · exact ⟨hs₅.extBut _ _ hDC zC.1, zC.2⟩
        · exact ⟨hD₅.trans (congrArg some (LCg.lst_snoc ys' (.int (f i j) t5))), zD.2⟩
        · have z := N₄ p (by simp only [List.mem_cons, List.mem_append]; rcases hp with h | h <;> simp [h])
          exact ⟨hs₅.extBut _ _ (offD p (List.mem_cons.mpr hp)) z.1, z.2⟩
  · obtain rfl : j = n2 := by omega
    refine W.done _ _ _ hI' fun h₂ tk₂ hk₂ => ?_
    exact hR h₂ tk₂ oC' m' ys' hC' (acc2_row f j i ▸ hys') (LCg.fr_but F' hk₂ hL h0) (LCg.news_but N' hk₂ (off2 _ _))
/-- the source of the second clause -/
def Rng2 (prog : Program) (w : World) (A : Around) (h₀ : Heap) (L : Addr) (m : Str → Option Value) (env : Env) (rb : PySem.Expr) (scope : Scope) (cl : List (Str × Addr)) (s : Shared) (news : List (Addr × Obj)) (n2 : Nat) : Prop :=
  ∀ (C : Nat) (oC : Obj) m₂ h tk rest (E' : Value → Shared → Prop), LCg.NsObj oC m₂ → Fr h₀ L h m → News h₀ L h ((C, oC) :: (news ++ rest)) →
    wpAny (model prog w) A (eval rb (compEnvC scope cl C env)) (RangeIs h₀ L m ((C, oC) :: (news ++ rest)) (n2 : Int) 1 s) E' { s with heap := h, toks := tk }
theorem two_out {x y : Str} {px py : Pos} {ra rb elt : PySem.Expr} {pos : Pos} {n1 n2 : Nat} {f : Nat → Nat → Int} {R : Result → Shared → Prop} {news : List (Addr × Obj)}
    (hh : A.handled = none) (hkind : scope.kind = .function) (hx : scope.names.lookup x = some .local) (hy : scope.names.lookup y = some .local) (hxy : x ≠ y) (h1 : n1 ≤ 100) (h2 : n2 ≤ 100)
    (helt : Elt2 prog w A h₀ L m env elt x y scope cl s news f n1 n2) (hrb : Rng2 prog w A h₀ L m env rb scope cl s news n2) (hf : ∀ (C : Nat) x, foldedSetIterable rb (compEnvC scope cl C env) x = pure x)
    (hC : LCg.NsObj oC m₂)
    (F : Fr h₀ L s.heap m) (N : News h₀ L s.heap ((C, oC) :: (D, LCg.lst []) :: news))
    (hI : s.heap.get? I1 = some (riO n1 0)) (off1 : ∀ (o o' : Obj), ∀ p ∈ (C, o) :: (D, o') :: news, p.1 ≠ I1) (hL : L ≠ I1) (h0 : h₀.get? I1 = none)
    (offC : ∀ (o' : Obj), ∀ p ∈ (D, o') :: news, p.1 ≠ C) (offD : ∀ p ∈ news, p.1 ≠ D)
    (hR : ∀ h' tk' oC' m' ys', LCg.NsObj oC' m' → IntsAre ys' (acc2 f n2 n1 0) → Fr h₀ L h' m → News h₀ L h' ((C, oC') :: (D, LCg.lst ys') :: news) → R (.ok .next) { s with heap := h', toks := tk' }) :
    codeAny (model prog w) A (.compLoop (.ListComp elt [⟨.Name x px, ra, [], 0⟩, ⟨.Name y py, rb, [], 0⟩] scope pos) 0 (.ref I1) (.ref D) (compEnvC scope cl C env)) R s := by
  have W := LCg.range_walks (prog := prog) (w := w) (A := A) (I := I1) hh 0 n1
  refine loop_app0 (fun k s' => ∃ i h' tk' oC' m' ys', s' = { s with heap := h', toks := tk' } ∧ i ≤ n1 ∧ k = n1 + 1 - i ∧ h'.get? I1 = some (riO n1 i) ∧ LCg.NsObj oC' m' ∧ IntsAre ys' (acc2 f n2 i 0) ∧ Fr h₀ L h' m ∧ News h₀ L h' ((C, oC') :: (D, LCg.lst ys') :: news))
    ?_ (n1 + 1) ⟨0, s.heap, s.toks, oC, m₂, [], rfl, by omega, rfl, hI, hC, .nil, F, N⟩ (by intro _; rfl) (hf C)
  rintro k s' ⟨i, h', tk', oC', m', ys', rfl, hi, rfl, hI', hC', hys', F', N'⟩
  by_cases hlt : i < n1
  · refine W.item i _ _ _ hlt hI' fun v h₂ tk₂ hPv hst₂ hk₂ => ?_
    obtain ⟨t, rfl⟩ := hPv
    have hI₂ : h₂.get? I1 = some (riO n1 (i + 1)) := hst₂
    refine set_nm (I := I1) hx hkind hC' F' N' hk₂ hI₂ (off1 _ _) hL h0 (offC _) fun oC₃ h₃ tk₃ hC₃ F₃ N₃ hI₃ => ?_
    have e : (0 : Int) + (i : Int) = ((i : Nat) : Int) := by omega
    have Nin : News h₀ L h₃ ((C, oC₃) :: (news ++ [(D, LCg.lst ys'), (I1, riO n1 (i + 1))])) := by
      intro p hp
      simp only [List.mem_cons, List.mem_append, List.not_mem_nil, or_false] at hp
      rcases hp with rfl | hp | rfl | rfl
      · exact N₃ _ (by simp)
      · exact N₃ _ (by simp [hp])
      · exact N₃ _ (by simp)
      · exact ⟨hI₃, Ne.symm hL, h0⟩
    refine wpAny_mono (hrb C oC₃ _ h₃ tk₃ _ _ hC₃ F₃ Nin) (fun xv s₄ hq => ?_) fun _ _ e => e
    obtain ⟨r, t1, u1, v1, h₄, tk₄, rfl, rfl, hr, F₄, N₄⟩ := hq
    refine rng_itN (by omega) hr F₄ N₄ fun I2 h₅ hI2 F₅ N₅ off2 hL2 hz2 => ?_
    have offI2 : ∀ (o o' : Obj), ∀ p ∈ (C, o) :: (D, o') :: (I1, riO n1 (i + 1)) :: news, p.1 ≠ I2 := by
      intro o o' p hp
      simp only [List.mem_cons] at hp
      rcases hp with rfl | rfl | rfl | hp
      · exact off2 (C, oC₃) (by simp)
      · exact off2 (D, LCg.lst ys') (by simp)
      · exact off2 (I1, riO n1 (i + 1)) (by simp)
      · exact off2 p (by simp [hp])
    have offC2 : ∀ (o' : Obj), ∀ p ∈ (D, o') :: (I1, riO n1 (i + 1)) :: news, p.1 ≠ C := by
      intro o' p hp
      simp only [List.mem_cons] at hp
      rcases hp with rfl | rfl | hp
      · exact offC o' _ (by simp)
      · exact fun q => off1 oC (LCg.lst []) (C, oC) (by simp) q.symm
      · exact offC o' p (by simp [hp])
    have offD2 : ∀ p ∈ (I1, riO n1 (i + 1)) :: news, p.1 ≠ D := by
      intro p hp
      rcases List.mem_cons.mp hp with rfl | hp
      · exact fun q => off1 oC (LCg.lst []) (D, LCg.lst []) (by simp) q.symm
      · exact offD p hp
    have fin : ∀ sx, sx = ({ s with heap := h₅, toks := tk₄ } : Shared) →
        codeAny (model prog w) A (.compLoop (.ListComp elt [⟨.Name x px, ra, [], 0⟩, ⟨.Name y py, rb, [], 0⟩] scope pos) 1 (.ref I2) (.ref D) (compEnvC scope cl C env)) (fun r s' => match r with
          | .ok f9 => ∃ k, k < n1 + 1 - i ∧ ∃ i h' tk' oC' m' ys', s' = { s with heap := h', toks := tk' } ∧ i ≤ n1 ∧ k = n1 + 1 - i ∧ h'.get? I1 = some (riO n1 i) ∧ LCg.NsObj oC' m' ∧ IntsAre ys' (acc2 f n2 i 0) ∧ Fr h₀ L h' m ∧ News h₀ L h' ((C, oC') :: (D, LCg.lst ys') :: news)
          | .error e => cameBackBy (model prog w) A (compEnvC scope cl C env) (notedBy (model prog w) A (compEnvC scope cl C env) fun e s' => R (.error e) s') e s') sx := by
      rintro sx rfl
      refine two_in (i := i) (t3 := t) (s := { s with heap := h₅, toks := tk₄ }) hh hkind hy hxy h1 h2 hlt (by intro i j C oC m₂ h tk rest t3 t4 E' a1 a2 a3 a4 a5 a6 a7; exact helt i j C oC m₂ h tk rest t3 t4 E' a1 a2 a3 a4 a5 a6 a7) hC₃ ((if_pos rfl).trans (by rw [e])) hys' F₅ (newsSub N₅ ?_) hI2 offI2 hL2 hz2 offC2 offD2 fun h₆ tk₆ oC₆ m₆ ys₆ hC₆ hys₆ F₆ N₆ => ?_
      · intro p hp
        simp only [List.mem_cons, List.mem_append, List.not_mem_nil, or_false] at hp ⊢
        rcases hp with h | h | h | h <;> simp [h]
      · exact ⟨n1 + 1 - (i + 1), by omega, i + 1, h₆, tk₆, oC₆, m₆, ys₆, rfl, hlt, rfl, (N₆ (I1, riO n1 (i + 1)) (by simp)).1, hC₆, hys₆, F₆, newsSub N₆ (by intro p hp; simp only [List.mem_cons] at hp ⊢; rcases hp with h | h | h <;> simp [h])⟩
    have W2 := LCg.range_walks (prog := prog) (w := w) (A := A) (I := I2) hh 0 n2
    refine wpAny_runOwn (start_app1 (fin _ rfl) (W2.self 0 _ _ _ hI2 (fin _ rfl)))
  · obtain rfl : i = n1 := by omega
    refine W.done _ _ _ hI' fun h₂ tk₂ hk₂ => ?_
    exact hR h₂ tk₂ oC' m' ys' hC' hys' (LCg.fr_but F' hk₂ hL h0) (LCg.news_but N' hk₂ (off1 _ _))
theorem ListComp_two {x y : Str} {px py : Pos} {ra rb elt : PySem.Expr} {pos : Pos} {n1 n2 : Nat} {f : Nat → Nat → Int} {Q : Value → Shared → Prop} {news : List (Addr × Obj)}
    (hh : A.handled = none) (hclos : closureFor scope env = pure cl) (hcell : ∀ y ∈ scope.names, y.2 ≠ .cell) (hkind : scope.kind = .function) (hnames : ∀ y ∈ scope.names, y.2 = .local → scope.names.lookup y.1 = some .local)
    (hx : scope.names.lookup x = some .local) (hy : scope.names.lookup y = some .local) (hxy : x ≠ y) (h1 : n1 ≤ 100) (h2 : n2 ≤ 100)
    (hra : wpAny (model prog w) A (eval ra env) (RangeIs h₀ L m news (n1 : Int) 1 s) E s)
    (helt : Elt2 prog w A h₀ L m env elt x y scope cl s news f n1 n2) (hrb : Rng2 prog w A h₀ L m env rb scope cl s news n2)
    (hf0 : ∀ x, foldedSetIterable ra env x = pure x) (hf : ∀ (C : Nat) x, foldedSetIterable rb (compEnvC scope cl C env) x = pure x)
    (fin : ∀ (D : Nat) h tk ys, IntsAre ys (acc2 f n2 n1 0) → Fr h₀ L h m → News h₀ L h ((D, LCg.lst ys) :: news) → (∀ p ∈ news, p.1 ≠ D) → Q (.ref D) { s with heap := h, toks := tk }) :
    wpAny (model prog w) A (eval (.ListComp elt [⟨.Name x px, ra, [], 0⟩, ⟨.Name y py, rb, [], 0⟩] scope pos) env) Q E s := by
  rw [eval_ListComp]
  refine wpAny_comprehension_free (use := none) rfl hf0 hclos hkind hnames (wpAny_mono hra (fun xv s₁ h₁ => ?_) fun _ _ e => e)
  obtain ⟨r, t1, u1, v1, g, tk, rfl, rfl, hr, F₁, N₁⟩ := h₁
  refine rng_itN (by omega) hr F₁ N₁ fun I g hI F₂ N₂ off hL h0 => ?_
  refine wpAny_newObj_type (wpAny_newFunctionEnv hcell (by intro y hy; simp at hy) (fun h₁ hns₁ hsb₁ => ?_) hkind)
  dsimp only at hns₁ hsb₁ ⊢
  generalize hH2 : g.push { cls := .type "list", dict := none, data := .seq ([] : List Value).toArray } = H2 at hns₁ hsb₁ ⊢
  have hC : H2.objs.size = g.objs.size + 1 := by rw [← hH2, Heap.size_push]
  have hDC : g.objs.size ≠ H2.objs.size := by rw [hC]; exact Nat.ne_of_lt (Nat.lt_succ_self _)
  have hlt : ∀ b o, g.get? b = some o → b ≠ H2.objs.size ∧ b ≠ g.objs.size := fun b o e => by
    have := Heap.lt_size e
    rw [hC]
    exact ⟨Nat.ne_of_lt (Nat.lt_succ_of_lt this), Nat.ne_of_lt this⟩
  have old : ∀ b o, g.get? b = some o → h₁.get? b = some o := fun b o e => hsb₁.extBut b o (hlt b o e).1 (Heap.get?_push_of_some _ (hH2 ▸ Heap.get?_push_of_some _ e))
  have hacc : h₁.get? g.objs.size = some (LCg.lst []) := hsb₁.extBut _ _ hDC (Heap.get?_push_of_some _ (hH2 ▸ Heap.get?_push_size _ rfl))
  obtain ⟨oC, heC, hoC⟩ := LCg.ns_obj hns₁
  obtain ⟨oL, heL⟩ : ∃ o, g.get? L = some o := by obtain ⟨o, _, _, e, _⟩ := F₂.ns; exact ⟨o, e⟩
  have fresh₀ : ∀ a, g.objs.size ≤ a → h₀.get? a = none := fun a ha => by
    cases e : h₀.get? a with
    | none => rfl
    | some o' => exact absurd (Heap.lt_size (F₂.keep a o' e)) (Nat.not_lt.mpr ha)
  have hC₀ := fresh₀ H2.objs.size (by rw [hC]; exact Nat.le_succ _)
  have hD₀ := fresh₀ g.objs.size (Nat.le_refl _)
  have hLn := hlt L oL heL
  have hIn := hlt I _ hI
  have offD : ∀ p ∈ news, p.1 ≠ g.objs.size := fun p hp => (hlt _ _ (N₂ p hp).1).2
  have offC : ∀ (o' : Obj), ∀ p ∈ (g.objs.size, o') :: news, p.1 ≠ H2.objs.size := fun o' p hp => by
    rcases List.mem_cons.mp hp with rfl | hp
    · exact hDC
    · exact (hlt _ _ (N₂ p hp).1).1
  have N₃ : News h₀ L h₁ ((H2.objs.size, oC) :: (g.objs.size, LCg.lst []) :: news) := fun p hp => by
    simp only [List.mem_cons] at hp
    rcases hp with rfl | rfl | hp
    · exact ⟨heC, Ne.symm hLn.1, hC₀⟩
    · exact ⟨hacc, Ne.symm hLn.2, hD₀⟩
    · exact ⟨old _ _ (N₂ _ hp).1, (N₂ _ hp).2⟩
  have offI : ∀ (o o' : Obj), ∀ p ∈ (H2.objs.size, o) :: (g.objs.size, o') :: news, p.1 ≠ I := fun o o' p hp => by
    simp only [List.mem_cons] at hp
    rcases hp with rfl | rfl | hp
    · exact Ne.symm hIn.1
    · exact Ne.symm hIn.2
    · exact off _ hp
  have W := LCg.range_walks (prog := prog) (w := w) (A := A) (I := I) hh 0 n1
  have loop : ∀ s₃ : Shared, s₃ = ({ s with heap := h₁, toks := tk + ([] : List (Str × Value)).length } : Shared) →
      codeAny (model prog w) A (.compLoop (.ListComp elt [⟨.Name x px, ra, [], 0⟩, ⟨.Name y py, rb, [], 0⟩] scope pos) 0 (.ref I) (.ref g.objs.size) (compEnvC scope cl H2.objs.size env)) (compPost (model prog w) A E none Q (.ref g.objs.size) H2.objs.size) s₃ := by
    rintro s₃ rfl
    refine two_out (s := { s with heap := h₁, toks := tk + ([] : List (Str × Value)).length }) hh hkind hx hy hxy h1 h2 (by intro i j C oC m₂ h tk rest t3 t4 E' a1 a2 a3 a4 a5 a6 a7; exact helt i j C oC m₂ h tk rest t3 t4 E' a1 a2 a3 a4 a5 a6 a7) (by intro C oC m₂ h tk rest E' a1 a2 a3; exact hrb C oC m₂ h tk rest E' a1 a2 a3) hf hoC (F₂.keeps old) N₃ (old _ _ hI) offI hL h0 offC offD fun h₄ tk₄ oC₄ m₄ ys₄ hC₄ hys₄ F₄ N₄ => ?_
    refine ⟨m₄, hC₄.ns (N₄ _ List.mem_cons_self).1, fun h₅ hs₅ => fin g.objs.size h₅ tk₄ ys₄ hys₄ (F₄.change hs₅ (Ne.symm hLn.1) hC₀) (fun p hp => ?_) offD⟩
    have z := N₄ p (List.mem_cons_of_mem _ hp)
    refine ⟨hs₅.extBut _ _ ?_ z.1, z.2⟩
    rcases List.mem_cons.mp hp with rfl | hp
    · exact hDC
    · exact (hlt _ _ (N₂ p hp).1).1
  exact codeAny_compStart_list (loop _ rfl) (W.self 0 _ _ _ (old _ _ hI) (loop _ rfl))
end
end Mine
end
section
open Lean Meta Elab PySem PySem.W PyProof.Rows PySem.Calls
set_option maxRecDepth 100000
set_option maxHeartbeats 0
set_option Elab.async false
set_option linter.unusedVariables false
namespace Mine
section
variable {α β : Type} {M : Model} {A : Around} {E : Value → Shared → Prop} {s : Shared}
theorem codeG_loop' {c : Code} {R : Result → Shared → Prop} (hq : c.quiet = true) (hcl : Clean c = true) (I : Nat → Shared → Prop)
    (turn : ∀ n s, I n s → wpG M (A.under c) (M.den c)
      (fun fin s' => match fin with
        | .done f => R (.ok f) s'
        | .again c' => (c' = c ∧ ∃ m, m < n ∧ I m s') ∨ (c'.quiet = true ∧ Clean c' = true ∧ codeG M A c' R s')) (fun e s' => R (.error e) s') s)
    (n : Nat) (h : I n s) : codeG M A c R s := by
  induction n using Nat.strongRecOn generalizing s with
  | ind n ih =>
    refine codeG_of_tree (wpG_mono (turn n s h) (fun fin s' hf => ?_) fun _ _ h' => h')
    cases fin with
    | done f => exact hf
    | again c' =>
      rcases hf with ⟨rfl, m, hm, hI⟩ | hf
      · exact ⟨hq, hcl, ih m hm hI⟩
      · exact hf
theorem wpG_quiet {m : Sem α} {k : Value → Sem Unit} {Q : α → Shared → Prop} (h : wpG M A m Q (fun _ _ => False) s) : wpG M A (m.onRaise k) Q E s :=
  wpG_onRaise (wpG_mono h (fun _ _ x => x) fun _ _ x => x.elim)
theorem wpG_never {m : Sem α} {Q : α → Shared → Prop} (h : wpG M A m Q (fun _ _ => False) s) : wpG M A m Q E s := wpG_mono h (fun _ _ x => x) fun _ _ x => x.elim
theorem wpG_If {test : PySem.Expr} {body orelse : List Stmt} {pos : Pos} {env : Env} {Q : Flow → Shared → Prop}
    (h : wpAny M A (isTrue test env (eval test env)) (fun b s₂ => if b then wpG M A (execs body env) Q E s₂ else wpG M A (execs orelse env) Q E s₂) E s) :
    wpG M A (exec (.If test body orelse pos) env) Q E s := by
  rw [exec_If]
  refine wpG_step (wpAny_standAt (wpG_step (wpAny_mono h (fun b s₂ h₂ => ?_) fun _ _ x => x)))
  cases b <;> exact h₂
theorem wpG_Return {e : PySem.Expr} {pos : Pos} {env : Env} {Q : Flow → Shared → Prop} (h : wpG M A (eval e env) (fun v => Q (.ret v)) E s) : wpG M A (exec (.Return (some e) pos) env) Q E s := by
  rw [exec_Return_some]
  exact wpG_step (wpAny_standAt (wpG_bind (wpG_mono h (fun v s' x => wpG_pure x) fun _ _ x => x)))
theorem wpG_Tuple {elts : List PySem.Expr} {k : Nat} {pos : Pos} {env : Env} {Q : Value → Shared → Prop}
    (h : wpG M A (spliced (backTo pos (starEach elts env)))
      (fun vs s₁ => vs.length ≤ sizeLine ∧ Q (.ref s₁.heap.objs.size) { s₁ with heap := s₁.heap.push { cls := .type "tuple", data := .seq vs.toArray } }) E s) : wpG M A (eval (.Tuple elts k pos) env) Q E s := by
  rw [arm_eval_Tuple]
  exact wpG_step (wpAny_standAt (wpG_bind (wpG_mono h (fun vs s₁ h₁ => wpG.of (wpAny_newObj_type h₁.2 (by show vs.toArray.size ≤ sizeLine; rw [List.size_toArray]; exact h₁.1))) fun _ _ x => x)))
theorem wpG_items_nil {pos : Pos} {env : Env} {Q : List Value → Shared → Prop} (h : Q [] s) : wpG M A (spliced (backTo pos (starEach [] env))) Q E s := wpG_pure h
theorem wpG_items_cons {pos : Pos} {e : PySem.Expr} {rest : List PySem.Expr} {env : Env} {Q : List Value → Shared → Prop}
    (h : wpG M A (eval e env) (fun v s₁ => wpG M A (spliced (backTo pos (starEach rest env))) (fun vs s₂ => Q (v :: vs) s₂) E s₁) E s)
    (he : starEach (e :: rest) env = (false, eval e env) :: starEach rest env := by rfl) : wpG M A (spliced (backTo pos (starEach (e :: rest) env))) Q E s := by
  rw [he]
  exact wpG_spliced_cons h
end
section
variable {prog : Program} {w : World} {A : Around} {E : Value → Shared → Prop} {s : Shared}
/-- a for loop whose turns never raise and never leave -/
theorem codeG_forLoop {R : Result → Shared → Prop} {target : PySem.Expr} {it : Value} {body : List Stmt} {env : Env} (I : Nat → Shared → Prop)
    (turn : ∀ n s, I n s → wpAny (model prog w) A (pyNext it) (fun r s₁ => match r with
      | none => R (.ok .next) s₁
      | some v => wpAny (model prog w) A (assign target env v) (fun _ s₂ => wpG (model prog w) A (execs body env) (fun f s₃ => f = .next ∧ ∃ m, m < n ∧ I m s₃) (fun _ _ => False) s₂) (fun _ _ => False) s₁) (fun _ _ => False) s)
    (n : Nat) (h : I n s) (ht : ∀ v, letOwnedTupleGo target it v = pure () := by intro _; rfl) : codeG (model prog w) A (.forLoop target it body [] env) R s := by
  refine codeG_loop' rfl rfl I (fun n s hI => ?_) n h
  show wpG _ _ ((forTurn target it body [] env).onRaise (fun x => do noteFrame x env; theTreesLotGoes x)) _ _ s
  refine wpG_quiet ?_
  simp only [forTurn]
  refine wpG_step (wpAny_standAt (wpG_step (wpAny_onRaise (wpAny_mono (turn n s hI) (fun r s₁ h₁ => ?_) fun _ _ h' => h'.elim))))
  cases r with
  | none => exact wpG_pure (.inr ⟨rfl, rfl, codeG.of (codeAny_block (wpAny_execs_nil h₁))⟩)
  | some v =>
    refine wpG_step (wpAny_of_eq (ht v) ?_)
    refine wpG_step (wpAny_mono h₁ (fun _ s₂ h₂ => wpG_bind (wpG_mono h₂ (fun f s₃ h₃ => ?_) fun _ _ h' => h')) fun _ _ h' => h')
    obtain ⟨rfl, h₃⟩ := h₃
    exact wpG_pure (.inl ⟨rfl, h₃⟩)
theorem wpG_For {target iter : PySem.Expr} {body : List Stmt} {pos : Pos} {env : Env} {Q : Flow → Shared → Prop}
    (h : wpAny (model prog w) A (eval iter env) (fun x s₁ => wpAny (model prog w) A (pyIter x) (fun it s₂ =>
      codeG (model prog w) A (.forLoop target it body [] env) (fun r s' => match r with | .ok f => Q f s' | .error e => False) s₂) E s₁) E s)
    (hs : ∀ x, foldedSetIterable iter env x = pure x := by intro _; rfl) :
    wpG (model prog w) A (exec (.For target iter body [] pos) env) Q E s := by
  rw [exec_For]
  refine wpG_step (wpAny_standAt (wpG_step (wpAny_mono h (fun x s₁ h₁ => wpG_step (wpAny_of_eq (hs x) (wpG_step (wpAny_standAt (wpG_step (wpAny_holding
    (wpAny_mono h₁ (fun it s₂ h₂ => wpG_runOwn (codeG_mono h₂ ?_) rfl) fun _ _ h' => h'))))))) fun _ _ h' => h')))
  intro r s' hr
  cases r with
  | ok f => exact hr
  | error e => exact hr.elim
/-- a comprehension of one clause without a test whose element never raises -/
theorem codeG_compLoop {elt target iter : PySem.Expr} {scope : Scope} {pos : Pos} {it acc : Value} {env : Env} {R : Result → Shared → Prop} (I : Nat → Shared → Prop)
    (turn : ∀ n s, I n s → wpAny (model prog w) A (pyNext it) (fun r s₁ => match r with
      | none => R (.ok .next) s₁
      | some v => wpAny (model prog w) A (assign target env v) (fun _ s₂ => wpG (model prog w) A (eval elt env) (fun x s₃ =>
          wpAny (model prog w) A (call (.builtin "list.append") [acc, x]) (fun _ s₄ => ∃ m, m < n ∧ I m s₄) (fun _ _ => False) s₃)
          (fun _ _ => False) s₂) (fun _ _ => False) s₁) (fun _ _ => False) s)
    (n : Nat) (h : I n s) (ht : ∀ v, letOwnedTupleGo target it v = pure () := by intro _; rfl) :
    codeG (model prog w) A (.compLoop (.ListComp elt [⟨target, iter, [], 0⟩] scope pos) 0 it acc env) R s := by
  refine codeG_loop' rfl rfl I (fun n s hI => ?_) n h
  show wpG _ A ((compTurn (.ListComp elt [⟨target, iter, [], 0⟩] scope pos) 0 it acc env).onRaise (fun x => do noteFrame x env; theTreesLotGoes x)) _ _ s
  refine wpG_quiet ?_
  rw [compTurn_list1]
  refine wpG_step (wpAny_standAt (wpG_step (wpAny_mono (turn n s hI) (fun r s₁ h₁ => ?_) fun _ _ h' => h')))
  cases r with
  | none => exact wpG_pure h₁
  | some v =>
    refine wpG_step (wpAny_of_eq (ht v) ?_)
    exact wpG_step (wpAny_mono h₁ (fun _ s₂ h₂ => wpG_bind (wpG_bind (wpG_mono h₂ (fun x s₃ h₃ => wpG_step (wpAny_mono h₃
      (fun _ s₄ h₄ => wpG_pure (wpG_pure (.inl ⟨rfl, h₄⟩))) fun _ _ h' => h')) fun _ _ h' => h'))) fun _ _ h' => h')
theorem codeG_compStart {elt target iter : PySem.Expr} {scope : Scope} {pos : Pos} {it acc : Value} {env : Env} {R : Result → Shared → Prop}
    (h0 : codeG (model prog w) A (.compLoop (.ListComp elt [⟨target, iter, [], 0⟩] scope pos) 0 it acc env) R s)
    (h : wpAny (model prog w) A (pyIter it) (fun it' s' => codeG (model prog w) A (.compLoop (.ListComp elt [⟨target, iter, [], 0⟩] scope pos) 0 it' acc env) R s') (fun _ _ => False) s) :
    codeG (model prog w) A (.compStart (.ListComp elt [⟨target, iter, [], 0⟩] scope pos) 0 it acc env) R s := by
  refine codeG_of_tree ?_
  show wpG _ _ ((compStart (.ListComp elt [⟨target, iter, [], 0⟩] scope pos) 0 it acc env).onRaise (fun x => do noteFrame x env; standAt theWindowsPlace)) _ _ s
  refine wpG_quiet ?_
  unfold compStart
  show wpG _ _ (ask >>= _) _ _ s
  refine wpG_step (wpAny_askSetting ?_)
  dsimp only
  split
  · first
      | exact wpG_step (wpAny_pure (wpG_pure (And.intro rfl ⟨rfl, h0⟩)))
      | exact wpG_pure (And.intro rfl ⟨rfl, h0⟩)
  · first
      | exact wpG_step (wpAny_rule (wpG_step (wpAny_standAt (wpG_step (wpAny_mono h (fun it' s' h' => wpG_pure (And.intro rfl ⟨rfl, h'⟩)) fun _ _ x => x)))))
      | (refine wpG_step (wpAny_rule ?_); show wpG _ _ (standAt iter.pos >>= _) _ _ s; exact wpG_step (wpAny_standAt (wpG_step (wpAny_mono h (fun it' s' h' => wpG_pure (And.intro rfl ⟨rfl, h'⟩)) fun _ _ x => x))))
end
section
variable {M : Model} {A : Around} {E : Value → Shared → Prop} {s : Shared}
theorem wpG_attempt {α : Type} {m : Sem α} {Q : Except Value α → Shared → Prop} (h : wpG M A m (fun a => Q (.ok a)) (fun _ _ => False) s) : wpG M A m.attempt Q E s := fun Γ p hΓ hc => by
  rw [Sem.wp_attempt]
  exact Sem.wp_mono M Γ m (fun _ _ _ x => x) (fun _ _ _ x => x.elim) p s (h Γ p hΓ hc)
theorem wpG_comprehension_use {e : PySem.Expr} {scope : Scope} {env : Env} {pos : Pos} {newAcc first : Sem Value} {g : Comprehension} {gs : List Comprehension} {cl : List (Str × Addr)} {u : Value → Sem Unit} {Q : Value → Shared → Prop}
    (hcl : clausesOf e = g :: gs) (hs : ∀ x, foldedSetIterable g.iter env x = pure x) (hclos : closureFor scope env = pure cl)
    (hkind : scope.kind = .function) (hnames : ∀ x ∈ scope.names, x.2 = .local → scope.names.lookup x.1 = some .local)
    (h : wpG M A first (fun x s₁ => wpAny M A (pyIter x) (fun it s₂ => wpAny M A newAcc (fun acc s₃ =>
      wpAny M A (newFunctionEnv scope env.globals cl [] env.qual none .none (some env)) (fun cenv s₄ =>
        codeG M A (.compStart e 0 it acc { cenv with scope := relabel scope env }) (fun r s' => match r with | .ok _ => wpAny M A (u acc) (fun _ s'' => ∃ m, s''.heap.Ns cenv.locals m ∧ ∀ h', Heap.SameBut cenv.locals s''.heap h' → Q .none { s'' with heap := h' }) (fun _ _ => False) s' | .error _ => False) s₄)
        (fun _ _ => False) s₃) (fun _ _ => False) s₂) (fun _ _ => False) s₁) (fun _ _ => False) s) :
    wpG M A (comprehension e scope env pos newAcc false first (some u)) Q E s := by
  refine wpG_never ?_
  unfold comprehension
  rw [hclos, hcl]
  refine wpG_bind (wpG_mono h (fun x s₁ h₁ => wpG_step (wpAny_standAt (wpG_step (wpAny_of_eq (hs x) (wpG_step (wpAny_holding (wpAny_mono h₁ (fun it s₂ h₂ =>
    ?_) fun _ _ h' => h'))))))) fun _ _ h' => h')
  refine wpG_step (wpAny_standAt ?_)
  refine wpG_step (wpAny_mono h₂ (fun acc s₃ h₃ => wpG_step (wpAny_pure (wpG_step (wpAny_mono h₃ (fun cenv s₄ h₄ => ?_) fun _ _ h' => h')))) fun _ _ h' => h')
  dsimp only
  have hv : ∀ x ∈ (scope.names.filter fun x => (x.2 == .local || x.2 == .cell) && x.1 != (".0" : Str)).reverse, x.2 = .local →
      Env.kindOf { cenv with scope := relabel scope env } x.1 = some .local := fun x hx hl => lookup_relabel_local (hnames x (List.mem_filter.mp (List.mem_reverse.mp hx)).1 hl)
  have hv' : ∀ x ∈ (scope.names.filter fun x => (x.2 == .local || x.2 == .cell) && x.1 != (".0" : Str)).reverse.drop 1 ++ (scope.names.filter fun x => (x.2 == .local || x.2 == .cell) && x.1 != (".0" : Str)).reverse.take 1,
      x.2 = .local → Env.kindOf { cenv with scope := relabel scope env } x.1 = some .local := fun x hx hl => by
    rcases List.mem_append.mp hx with h1 | h1
    · exact hv x (List.mem_of_mem_drop h1) hl
    · exact hv x (List.mem_of_mem_take h1) hl
  refine wpG_holding (wpG_bind (wpG_attempt (wpG_holding (wpG_run (codeG_mono h₄ fun r s' hr => ?_) rfl))))
  cases r with
  | ok f =>
    refine wpG_step (wpAny_rule (wpG_step (wpAny_holding (wpAny_mono hr (fun _ s'' hr' => ?_) fun _ _ h' => h'))))
    obtain ⟨m, hn, hr'⟩ := hr'
    exact wpG_step (wpAny_comp_letGo (cenv := { cenv with scope := relabel scope env }) hkind _ s'' m hv' hn fun h' m' _ hs' => wpG_pure (hr' h' hs'))
  | error x => exact hr.elim
end
end Mine
end
section
open Lean Meta Elab PySem PySem.W PyProof.Rows
set_option maxRecDepth 100000
set_option maxHeartbeats 0
set_option Elab.async false
set_option linter.unusedVariables false
namespace Mine
theorem fillBA : (fun (_ : Params → Frag) (_ : OpenLaw) => True) K rw1 := by k_fill; trivial
theorem kw40 : True := by
  k_with_none
  k_with "c_enter" => (refine' code_def ?k1 ?k2 ?k3 ?k4 ?k5 ?kA ?kF ?kK ?k6 ?k7 ?zk8 ?zk9 ?kB ?_ ?c2 ?c3 ?c4 ?c5; (case kA => exact rfl); (case kF => exact rfl); (case kK => assumption); (case k1 => k_asm); (case k2 => k_asm); (case k3 => k_asm); (case k4 => k_asm); (case k5 => k_asm); (case k6 => k_is); (case k7 => k_is); (case zk8 => ktr_room); (case zk9 => first | exact BindsTo.of_eq rfl | exact binds_K (by k_in) rfl (by k_is) rfl rfl rfl | fail "c_enter: the arguments"); (case c5 => decide); (case kB => exact locs rfl); (case c2 => exact rfl); (case c3 => exact rfl); (case c4 => exact rfl); k_whole; intro zg' zL' zh' zFG' zF' zN' zB' zX' zT'; (try dsimp only); (try k_fold))
  k_with "compareOp In str str" => (k_here; (first | with_reducible refine in_ch (by with_reducible assumption) ?_ | with_reducible refine in_nil ?_ | with_reducible refine in_b (b := false) (by decide +kernel) ?_ | with_reducible refine in_b (b := true) (by decide +kernel) ?_))
  k_with "compareOp NotIn str str" => (k_here; (first | with_reducible refine notin_ch (by with_reducible assumption) ?_ | with_reducible refine notin_nil ?_))
  k_with "compareOp Eq str str" => (k_here; (first | with_reducible refine eq_b (by with_reducible assumption) ?_ | with_reducible refine eq_b (b := false) (by decide +kernel) ?_ | with_reducible refine eq_b (b := true) (by decide +kernel) ?_))
  k_with "truthy str" => (k_here; (first | with_reducible refine truthy_ch ?_ | with_reducible refine truthy_nil ?_ | with_reducible refine truthy_p (by with_reducible assumption) (by with_reducible assumption) ?_); intro zk9)
  k_with "s_enter" => (refine' code_defS ?k1 ?k2 ?k3 ?k4 ?k5 ?XB ?TB ?D ?T0 ?kA ?k6 ?k7 ?zk8 ?zk9 ?kB ?_ ?cK ?c2 ?c3 ?c4 ?c5; (case kA => exact rfl); (case k2 => k_asm); (case k1 => k_asm); (case XB => exact Gd.x (by assumption)); (case TB => exact Gd.t (by assumption)); (case D => assumption); (case T0 => exact KtsTurn.refl); (case k3 => k_asm); (case k4 => k_asm); (case k5 => k_asm); (case k6 => k_is); (case k7 => k_is); (case zk8 => ktr_room); (case zk9 => first | exact BindsTo.of_eq rfl | exact binds_K (by k_in) rfl (by k_is) rfl rfl rfl | fail "s_enter: the arguments"); (case kB => exact locs rfl); (case cK => first | exact rfl | assumption); (case c2 => exact rfl); (case c3 => exact rfl); (case c4 => exact rfl); (case c5 => decide); k_whole; intro zg' zL' zh' zFG' zF' zN' zB' zX' zT' zD'; (try dsimp only); (try k_fold))
  trivial
abbrev deedCl (c1 c2 c3 : Nat) : List (Str × Addr) := [("high", c3), ("wide", c2), ("octets", c1)]
theorem deed_cl (L : Nat) : cellsFrom (L + 1) f_law_deed_s.names [] = deedCl (L + 1) (L + 1 + 1) (L + 1 + 1 + 1) := by first | rfl | with_unfolding_all rfl
noncomputable def deP0 : Stmt := litOf (stm f_law_deed_b 0) (by conv => rhs; whnf)
noncomputable def deP1 : Stmt := litOf (stm f_law_deed_b 1) (by conv => rhs; whnf)
noncomputable def deP2 : Stmt := litOf (stm f_law_deed_b 2) (by conv => rhs; whnf)
noncomputable def deP3 : Stmt := litOf (stm f_law_deed_b 3) (by conv => rhs; whnf)
noncomputable def deP4 : Stmt := litOf (stm f_law_deed_b 4) (by conv => rhs; whnf)
theorem deed_body : f_law_deed_b = [deP0, deP1, deP2, deP3, deP4] := by with_unfolding_all rfl
def nm (k : Nat) : Str := if k = 0 then "side" else if k = 1 then "about" else "over"
section
variable {w : World} {mean : ExcName → Option Value} {mg mb : Str → Option Value} {dp un : Nat} {gd : Option (List Code)} {outer : List Env} {A₀ : Around} {base h₀ : Heap} {L : Addr} {ccd : Value} {m : Str → Option Value} {rest news : List (Addr × Obj)} {s : Shared} {Q : Flow → Shared → Prop} {E : Value → Shared → Prop} {c1 c2 c3 P : Nat} {o1 o2 o3 : Obj}
abbrev pic (l : List Nat) (wd : Nat) (t1 t2 : Tok) : Obj := { cls := .type "tuple", data := .seq #[.bytes (bytesOf l) t1, .int (wd : Nat) t2] }
theorem deed_0 {l : List Nat} {wd : Nat} {x : Str} {t1 t2 t3 : Tok} (hz : l.length ≤ 900) (hP : h₀.get? P = some (pic l wd t1 t2)) (hP' : h₀.IsTuple P #[.bytes (bytesOf l) t1, .int (wd : Nat) t2])
    (d1 : o1.data = .cell none) (d2 : o2.data = .cell none) (d3 : o3.data = .cell none) (n12 : c1 ≠ c2) (n13 : c1 ≠ c3) (n23 : c2 ≠ c3)
    (B : Below A₀ base outer h₀) (F : Fr h₀ L s.heap (fun y => if y = "word" then some (.str x t3) else if y = "picture" then some (.ref P) else none)) (X : (K w.params).In h₀) (N : News h₀ L s.heap [(c3, o3), (c2, o2), (c1, o1)]) (T : Top q loose mean mg mb h₀)
    (hd : dp + 12 < recursionLimit) (hu : un + 100 < cLine)
    (hret : ∀ o1' o2' h' tk', o1'.data = .cell (some (.bytes (bytesOf l) t1)) → o2'.data = .cell (some (.int (wd : Nat) t2)) → Fr h₀ L h' (fun y => if y = "word" then some (.str x t3) else if y = "picture" then some (.ref P) else none) → News h₀ L h' [(c3, o3), (c2, o2'), (c1, o1')] → Q .next { s with heap := h', toks := tk' }) :
    wpAny (model pw w) (ktrTop dp un gd "_law_deed" f_law_deed_s L 767 ccd (deedCl c1 c2 c3) outer) (exec deP0 (envX "_law_deed" f_law_deed_s L 767 ccd (deedCl c1 c2 c3))) Q E s := by
  unfold deP0
  k_steps
  all_goals exact hret _ _ _ _ (by assumption) (by assumption) (by k_asm) (by k_asm)

theorem deed_side {l : List Nat} {wd R : Nat} {t1 t2 t3 : Tok} (hl : ∀ c ∈ l, c < 256) (hz : l.length ≤ 900) (hw : 0 < wd) (hw2 : wd ≤ 100) (hR : l.length = R * wd) (hP : h₀.get? P = some (pic l wd t1 t2))
    (d1 : o1.data = .cell none) (d2 : o2.data = .cell none) (d3 : o3.data = .cell none) (n12 : c1 ≠ c2) (n13 : c1 ≠ c3) (n23 : c2 ≠ c3)
    (B : Below A₀ base outer h₀) (F : Fr h₀ L s.heap (fun y => if y = "word" then some (.str "side" t3) else if y = "picture" then some (.ref P) else none)) (X : (K w.params).In h₀) (N : News h₀ L s.heap [(c3, o3), (c2, o2), (c1, o1)]) (T : Top q loose mean mg mb h₀)
    (hd : dp + 12 < recursionLimit) (hu : un + 100 < cLine)
    (hret : ∀ (P' : Nat) t1' t2' h' tk', (∀ b o, h₀.get? b = some o → h'.get? b = some o) → h'.get? P' = some (pic (swp l wd) wd t1' t2') → h₀.objs.size ≤ P' → Q (.ret (.ref P')) { s with heap := h', toks := tk' }) :
    wpG (model pw w) (ktrTop dp un gd "_law_deed" f_law_deed_s L 767 ccd (deedCl c1 c2 c3) outer) (execs f_law_deed_b (envX "_law_deed" f_law_deed_s L 767 ccd (deedCl c1 c2 c3))) Q E s := by
  rw [deed_body]
  refine wpG_execs_cons (wpG.of (deed_0 hz hP ⟨_, hP, rfl, _, rfl⟩ d1 d2 d3 n12 n13 n23 B F X N T hd hu fun o1' o2' h1 tk1 e1 e2 F1 N1 => ?_))
  dsimp only
  refine wpG_execs_cons ?_
  show wpG _ _ (exec (.If _ [.Return (some (.Tuple [.Call (.Name "_byteswap" _) _ [] _, _] _ _)) _] [] _) _) _ _ _
  refine wpG_If ?_
  k_steps
  refine wpG_execs_cons (wpG_Return (wpG_Tuple (wpG_items_cons (wpG_Call ?_))))
  k_steps
  refine wpG_callWith_K (K := K w.params) (by k_is) (wpG.of ?_)
  k_steps
  refine bswap_c (wd := wd) (R := R) hl (by omega) hw (by omega) hR B (by k_asm) X (by k_asm) T rfl ?rd ?ru ?_
  case rd => ktr_room
  case ru => ktr_units
  intro t5 h5 tk5 F5 N5
  dsimp only
  refine wpG.of ?_
  k_steps
  all_goals exact hret _ _ _ _ _ (fun b o e => Heap.get?_push_of_some _ (F5.keep b o e)) (Heap.get?_push_size _ rfl) (Nat.le_trans F5.above (Nat.le_of_lt F5.ns.lt))
theorem deed_about {l : List Nat} {wd R : Nat} {t1 t2 t3 : Tok} (hl : ∀ c ∈ l, c < 256) (hz : l.length ≤ 900) (hw : 0 < wd) (hw2 : wd ≤ 100) (h0 : 0 < l.length) (hP : h₀.get? P = some (pic l wd t1 t2))
    (d1 : o1.data = .cell none) (d2 : o2.data = .cell none) (d3 : o3.data = .cell none) (n12 : c1 ≠ c2) (n13 : c1 ≠ c3) (n23 : c2 ≠ c3)
    (B : Below A₀ base outer h₀) (F : Fr h₀ L s.heap (fun y => if y = "word" then some (.str "about" t3) else if y = "picture" then some (.ref P) else none)) (X : (K w.params).In h₀) (N : News h₀ L s.heap [(c3, o3), (c2, o2), (c1, o1)]) (T : Top q loose mean mg mb h₀)
    (hd : dp + 12 < recursionLimit) (hu : un + 100 < cLine)
    (hret : ∀ (P' : Nat) t1' t2' h' tk', (∀ b o, h₀.get? b = some o → h'.get? b = some o) → h'.get? P' = some (pic (swp l l.length) wd t1' t2') → h₀.objs.size ≤ P' → Q (.ret (.ref P')) { s with heap := h', toks := tk' }) :
    wpG (model pw w) (ktrTop dp un gd "_law_deed" f_law_deed_s L 767 ccd (deedCl c1 c2 c3) outer) (execs f_law_deed_b (envX "_law_deed" f_law_deed_s L 767 ccd (deedCl c1 c2 c3))) Q E s := by
  rw [deed_body]
  refine wpG_execs_cons (wpG.of (deed_0 hz hP ⟨_, hP, rfl, _, rfl⟩ d1 d2 d3 n12 n13 n23 B F X N T hd hu fun o1' o2' h1 tk1 e1 e2 F1 N1 => ?_))
  dsimp only
  unfold deP1
  refine wpG_execs_cons (wpG.of ?_)
  k_steps
  refine wpG_execs_cons ?_
  show wpG _ _ (exec (.If _ [.Return (some (.Tuple [.Call (.Name "_byteswap" _) _ [] _, _] _ _)) _] [] _) _) _ _ _
  refine wpG_If ?_
  k_steps
  refine wpG_execs_cons (wpG_Return (wpG_Tuple (wpG_items_cons (wpG_Call ?_))))
  k_steps
  refine wpG_callWith_K (K := K w.params) (by k_is) (wpG.of ?_)
  k_steps
  have hsz : (bytesOf l).size = l.length := bytesOf_size l
  rw [hsz]
  refine bswap_c (wd := l.length) (R := 1) hl (by omega) h0 (by omega) (by omega) B (by k_asm) X (by k_asm) T rfl ?rd ?ru ?_
  case rd => ktr_room
  case ru => ktr_units
  intro t5 h5 tk5 F5 N5
  dsimp only
  refine wpG.of ?_
  k_steps
  all_goals exact hret _ _ _ _ _ (fun b o e => Heap.get?_push_of_some _ (F5.keep b o e)) (Heap.get?_push_size _ rfl) (Nat.le_trans F5.above (Nat.le_of_lt F5.ns.lt))
end
end Mine
end
section
open Lean Meta Elab PySem PySem.W PyProof.Rows
set_option maxRecDepth 100000
set_option maxHeartbeats 0
set_option Elab.async false
set_option linter.unusedVariables false
namespace Mine
theorem fillBB : (fun (_ : Params → Frag) (_ : OpenLaw) => True) K rw1 := by k_fill; trivial
theorem kw41 : True := by
  k_with_none
  k_with "c_enter" => (refine' code_def ?k1 ?k2 ?k3 ?k4 ?k5 ?kA ?kF ?kK ?k6 ?k7 ?zk8 ?zk9 ?kB ?_ ?c2 ?c3 ?c4 ?c5; (case kA => exact rfl); (case kF => exact rfl); (case kK => assumption); (case k1 => k_asm); (case k2 => k_asm); (case k3 => k_asm); (case k4 => k_asm); (case k5 => k_asm); (case k6 => k_is); (case k7 => k_is); (case zk8 => ktr_room); (case zk9 => first | exact BindsTo.of_eq rfl | exact binds_K (by k_in) rfl (by k_is) rfl rfl rfl | fail "c_enter: the arguments"); (case c5 => decide); (case kB => exact locs rfl); (case c2 => exact rfl); (case c3 => exact rfl); (case c4 => exact rfl); k_whole; intro zg' zL' zh' zFG' zF' zN' zB' zX' zT'; (try dsimp only); (try k_fold))
  k_with "compareOp In str str" => (k_here; (first | with_reducible refine in_ch (by with_reducible assumption) ?_ | with_reducible refine in_nil ?_ | with_reducible refine in_b (b := false) (by decide +kernel) ?_ | with_reducible refine in_b (b := true) (by decide +kernel) ?_))
  k_with "compareOp NotIn str str" => (k_here; (first | with_reducible refine notin_ch (by with_reducible assumption) ?_ | with_reducible refine notin_nil ?_))
  k_with "compareOp Eq str str" => (k_here; (first | with_reducible refine eq_b (by with_reducible assumption) ?_ | with_reducible refine eq_b (b := false) (by decide +kernel) ?_ | with_reducible refine eq_b (b := true) (by decide +kernel) ?_))
  k_with "truthy str" => (k_here; (first | with_reducible refine truthy_ch ?_ | with_reducible refine truthy_nil ?_ | with_reducible refine truthy_p (by with_reducible assumption) (by with_reducible assumption) ?_); intro zk9)
  k_with "s_enter" => (refine' code_defS ?k1 ?k2 ?k3 ?k4 ?k5 ?XB ?TB ?D ?T0 ?kA ?k6 ?k7 ?zk8 ?zk9 ?kB ?_ ?cK ?c2 ?c3 ?c4 ?c5; (case kA => exact rfl); (case k2 => k_asm); (case k1 => k_asm); (case XB => exact Gd.x (by assumption)); (case TB => exact Gd.t (by assumption)); (case D => assumption); (case T0 => exact KtsTurn.refl); (case k3 => k_asm); (case k4 => k_asm); (case k5 => k_asm); (case k6 => k_is); (case k7 => k_is); (case zk8 => ktr_room); (case zk9 => first | exact BindsTo.of_eq rfl | exact binds_K (by k_in) rfl (by k_is) rfl rfl rfl | fail "s_enter: the arguments"); (case kB => exact locs rfl); (case cK => first | exact rfl | assumption); (case c2 => exact rfl); (case c3 => exact rfl); (case c4 => exact rfl); (case c5 => decide); k_whole; intro zg' zL' zh' zFG' zF' zN' zB' zX' zT' zD'; (try dsimp only); (try k_fold))
  k_with "subscriptTail Name BinOp bytes int" => (k_here; (with_unfolding_all refine' bytes_item ?k0 ?k1 ?k2 ?kz ?_ ?k3 ?k4; (case k0 => assumption); (case k1 => first | assumption | rfl | (push_cast; omega)); (case k2 => assumption); (case kz => assumption); (case k3 => with_unfolding_all rfl); (case k4 => intro _; with_unfolding_all rfl); k_whole); intro zt9 ztk9)
  trivial
def trs (l : List Nat) (wd R : Nat) : List Nat := (List.range wd).flatMap fun x => (List.range R).map fun y => l.getD (y * wd + x) 0
theorem trs_acc (l : List Nat) (wd R : Nat) : acc2 (fun x y => (l.getD (y * wd + x) 0 : Nat)) R wd 0 = (trs l wd R).map (fun c : Nat => (c : Int)) := by
  unfold acc2 trs
  simp [List.map_flatMap, List.map_map, Function.comp_def]
noncomputable def deL : PySem.Expr := litOf (match deP4 with | .Return (some (.Tuple (.Call _ (l :: _) _ _ :: _) _ _)) _ => l | _ => .Constant .none 0 default) (by conv => rhs; whnf)
noncomputable def deE : PySem.Expr := litOf (match deL with | .ListComp e _ _ _ => e | _ => .Constant .none 0 default) (by conv => rhs; whnf)
noncomputable def deS : Scope := litOf (match deL with | .ListComp _ _ sc _ => sc | _ => default) (by conv => rhs; whnf)
noncomputable def deR0 : PySem.Expr := litOf (match deL with | .ListComp _ (g :: _) _ _ => g.iter | _ => .Constant .none 0 default) (by conv => rhs; whnf)
noncomputable def deR1 : PySem.Expr := litOf (match deL with | .ListComp _ (_ :: g :: _) _ _ => g.iter | _ => .Constant .none 0 default) (by conv => rhs; whnf)
noncomputable def deQa : Pos := litOf (match deL with | .ListComp _ (⟨.Name _ p, _, _, _⟩ :: _) _ _ => p | _ => default) (by conv => rhs; whnf)
noncomputable def deQb : Pos := litOf (match deL with | .ListComp _ (_ :: ⟨.Name _ p, _, _, _⟩ :: _) _ _ => p | _ => default) (by conv => rhs; whnf)
noncomputable def deQ : Pos := litOf (match deL with | .ListComp _ _ _ p => p | _ => default) (by conv => rhs; whnf)
theorem deL_eq : deL = .ListComp deE [⟨.Name "x" deQa, deR0, [], 0⟩, ⟨.Name "y" deQb, deR1, [], 0⟩] deS deQ := by with_unfolding_all rfl
abbrev deCl (c1 c2 c3 : Nat) : List (Str × Addr) := [("wide", c2), ("octets", c1), ("high", c3)]
theorem de_cl {L c1 c2 c3 : Nat} {ccd : Value} : closureFor deS (envX "_law_deed" f_law_deed_s L 767 ccd (deedCl c1 c2 c3)) = pure (deCl c1 c2 c3) := by first | rfl | with_unfolding_all rfl
section
variable {w : World} {mean : ExcName → Option Value} {mg mb : Str → Option Value} {dp un : Nat} {gd : Option (List Code)} {outer : List Env} {A₀ : Around} {base h₀ : Heap} {L : Addr} {ccd : Value} {m : Str → Option Value} {rest news : List (Addr × Obj)} {s : Shared} {Q : Value → Shared → Prop} {E : Value → Shared → Prop} {c1 c2 c3 P : Nat} {o1 o2 o3 : Obj}
theorem over_elt {l : List Nat} {wd R : Nat} {t1 t2 t3 : Tok} (hl : ∀ c ∈ l, c < 256) (hz : l.length ≤ 900) (hw : 0 < wd) (hw2 : wd ≤ 20) (hR2 : R ≤ 20) (hR : l.length = R * wd)
    (d1 : o1.data = .cell (some (.bytes (bytesOf l) t1))) (d2 : o2.data = .cell (some (.int (wd : Nat) t2))) (d3 : o3.data = .cell (some (.int (R : Nat) t3)))
    (B : Below A₀ base outer h₀) (X : (K w.params).In h₀) (T : Top q loose mean mg mb h₀)
    (hd : dp + 12 < recursionLimit) (hu : un + 100 < cLine) :
    Elt2 pw w (ktrTop dp un gd "_law_deed" f_law_deed_s L 767 ccd (deedCl c1 c2 c3) outer) h₀ L m (envX "_law_deed" f_law_deed_s L 767 ccd (deedCl c1 c2 c3)) deE "x" "y" deS (deCl c1 c2 c3) s [(c3, o3), (c2, o2), (c1, o1)] (fun x y => (l.getD (y * wd + x) 0 : Nat)) wd R := by
  intro i j C oC m₂ h tk rest t5 t6 E' hi hj hC mx my F N
  have hk : j * wd + i < l.length := by
    rw [hR]
    have : (j + 1) * wd ≤ R * wd := Nat.mul_le_mul_right _ hj
    rw [Nat.succ_mul] at this
    omega
  have ek : ((j : Nat) : Int) * ((wd : Nat) : Int) + ((i : Nat) : Int) = ((j * wd + i : Nat) : Int) := by push_cast; rfl
  have hz2 : l.length ≤ 1000 := by omega
  dsimp only [List.cons_append, List.nil_append] at N ⊢
  unfold deE deS deCl
  k_steps
  all_goals first | rfl | k_asm
theorem over_rb {R : Nat} {t3 : Tok} (d3 : o3.data = .cell (some (.int (R : Nat) t3)))
    (B : Below A₀ base outer h₀) (X : (K w.params).In h₀) (T : Top q loose mean mg mb h₀)
    (hd : dp + 12 < recursionLimit) (hu : un + 100 < cLine) :
    Rng2 pw w (ktrTop dp un gd "_law_deed" f_law_deed_s L 767 ccd (deedCl c1 c2 c3) outer) h₀ L m (envX "_law_deed" f_law_deed_s L 767 ccd (deedCl c1 c2 c3)) deR1 deS (deCl c1 c2 c3) s [(c3, o3), (c2, o2), (c1, o1)] R := by
  intro C oC m₂ h tk rest E' hC F N
  dsimp only [List.cons_append, List.nil_append] at N ⊢
  unfold deR1 deS deCl
  k_steps
  all_goals exact ⟨_, _, _, _, _, _, rfl, rfl, by assumption, by k_asm, by k_asm⟩
theorem over_ra {wd : Nat} {t2 : Tok} (d2 : o2.data = .cell (some (.int (wd : Nat) t2)))
    (B : Below A₀ base outer h₀) (F : Fr h₀ L s.heap m) (X : (K w.params).In h₀) (N : News h₀ L s.heap [(c3, o3), (c2, o2), (c1, o1)]) (T : Top q loose mean mg mb h₀)
    (hd : dp + 12 < recursionLimit) (hu : un + 100 < cLine) :
    wpAny (model pw w) (ktrTop dp un gd "_law_deed" f_law_deed_s L 767 ccd (deedCl c1 c2 c3) outer) (eval deR0 (envX "_law_deed" f_law_deed_s L 767 ccd (deedCl c1 c2 c3))) (RangeIs h₀ L m [(c3, o3), (c2, o2), (c1, o1)] (wd : Int) 1 s) E s := by
  unfold deR0
  k_steps
  all_goals exact ⟨_, _, _, _, _, _, rfl, rfl, by assumption, by k_asm, by k_asm⟩
theorem over_c {l : List Nat} {wd R : Nat} {t1 t2 t3 : Tok} (hl : ∀ c ∈ l, c < 256) (hz : l.length ≤ 900) (hw : 0 < wd) (hw2 : wd ≤ 20) (hR2 : R ≤ 20) (hR : l.length = R * wd)
    (d1 : o1.data = .cell (some (.bytes (bytesOf l) t1))) (d2 : o2.data = .cell (some (.int (wd : Nat) t2))) (d3 : o3.data = .cell (some (.int (R : Nat) t3)))
    (B : Below A₀ base outer h₀) (F : Fr h₀ L s.heap m) (X : (K w.params).In h₀) (N : News h₀ L s.heap [(c3, o3), (c2, o2), (c1, o1)]) (T : Top q loose mean mg mb h₀)
    (hd : dp + 12 < recursionLimit) (hu : un + 100 < cLine)
    (hret : ∀ (D : Nat) h tk ys, IntsAre ys ((trs l wd R).map fun c : Nat => (c : Int)) → Fr h₀ L h m → News h₀ L h ((D, LCg.lst ys) :: [(c3, o3), (c2, o2), (c1, o1)]) → (∀ p ∈ [(c3, o3), (c2, o2), (c1, o1)], p.1 ≠ D) → Q (.ref D) { s with heap := h, toks := tk }) :
    wpAny (model pw w) (ktrTop dp un gd "_law_deed" f_law_deed_s L 767 ccd (deedCl c1 c2 c3) outer) (eval deL (envX "_law_deed" f_law_deed_s L 767 ccd (deedCl c1 c2 c3))) Q E s := by
  rw [deL_eq]
  refine ListComp_two (f := fun x y => (l.getD (y * wd + x) 0 : Nat)) (n1 := wd) (n2 := R) rfl de_cl (by decide) rfl (by decide) (by rfl) (by rfl) (by decide) (by omega) (by omega) (over_ra d2 B F X N T hd hu)
    (over_elt hl hz hw hw2 hR2 hR d1 d2 d3 B X T hd hu) (over_rb d3 B X T hd hu) (by intro _; rfl) (by intro _ _; rfl) fun D h tk ys hys F' N' off => hret D h tk ys ?_ F' N' off
  rw [← trs_acc]; exact hys
end
end Mine
end
section
open Lean Meta Elab PySem PySem.W PyProof.Rows
set_option maxRecDepth 100000
set_option maxHeartbeats 0
set_option Elab.async false
set_option linter.unusedVariables false
namespace Mine
theorem fillBC : (fun (_ : Params → Frag) (_ : OpenLaw) => True) K rw1 := by k_fill; trivial
theorem kw42 : True := by
  k_with_none
  k_with "c_enter" => (refine' code_def ?k1 ?k2 ?k3 ?k4 ?k5 ?kA ?kF ?kK ?k6 ?k7 ?zk8 ?zk9 ?kB ?_ ?c2 ?c3 ?c4 ?c5; (case kA => exact rfl); (case kF => exact rfl); (case kK => assumption); (case k1 => k_asm); (case k2 => k_asm); (case k3 => k_asm); (case k4 => k_asm); (case k5 => k_asm); (case k6 => k_is); (case k7 => k_is); (case zk8 => ktr_room); (case zk9 => first | exact BindsTo.of_eq rfl | exact binds_K (by k_in) rfl (by k_is) rfl rfl rfl | fail "c_enter: the arguments"); (case c5 => decide); (case kB => exact locs rfl); (case c2 => exact rfl); (case c3 => exact rfl); (case c4 => exact rfl); k_whole; intro zg' zL' zh' zFG' zF' zN' zB' zX' zT'; (try dsimp only); (try k_fold))
  k_with "compareOp In str str" => (k_here; (first | with_reducible refine in_ch (by with_reducible assumption) ?_ | with_reducible refine in_nil ?_ | with_reducible refine in_b (b := false) (by decide +kernel) ?_ | with_reducible refine in_b (b := true) (by decide +kernel) ?_))
  k_with "compareOp NotIn str str" => (k_here; (first | with_reducible refine notin_ch (by with_reducible assumption) ?_ | with_reducible refine notin_nil ?_))
  k_with "compareOp Eq str str" => (k_here; (first | with_reducible refine eq_b (by with_reducible assumption) ?_ | with_reducible refine eq_b (b := false) (by decide +kernel) ?_ | with_reducible refine eq_b (b := true) (by decide +kernel) ?_))
  k_with "truthy str" => (k_here; (first | with_reducible refine truthy_ch ?_ | with_reducible refine truthy_nil ?_ | with_reducible refine truthy_p (by with_reducible assumption) (by with_reducible assumption) ?_); intro zk9)
  k_with "s_enter" => (refine' code_defS ?k1 ?k2 ?k3 ?k4 ?k5 ?XB ?TB ?D ?T0 ?kA ?k6 ?k7 ?zk8 ?zk9 ?kB ?_ ?cK ?c2 ?c3 ?c4 ?c5; (case kA => exact rfl); (case k2 => k_asm); (case k1 => k_asm); (case XB => exact Gd.x (by assumption)); (case TB => exact Gd.t (by assumption)); (case D => assumption); (case T0 => exact KtsTurn.refl); (case k3 => k_asm); (case k4 => k_asm); (case k5 => k_asm); (case k6 => k_is); (case k7 => k_is); (case zk8 => ktr_room); (case zk9 => first | exact BindsTo.of_eq rfl | exact binds_K (by k_in) rfl (by k_is) rfl rfl rfl | fail "s_enter: the arguments"); (case kB => exact locs rfl); (case cK => first | exact rfl | assumption); (case c2 => exact rfl); (case c3 => exact rfl); (case c4 => exact rfl); (case c5 => decide); k_whole; intro zg' zL' zh' zFG' zF' zN' zB' zX' zT' zD'; (try dsimp only); (try k_fold))
  trivial
section
variable {w : World} {mean : ExcName → Option Value} {mg mb : Str → Option Value} {dp un : Nat} {gd : Option (List Code)} {outer : List Env} {A₀ : Around} {base h₀ : Heap} {L : Addr} {ccd : Value} {m : Str → Option Value} {rest news : List (Addr × Obj)} {s : Shared} {Q : Value → Shared → Prop} {E : Value → Shared → Prop} {c1 c2 c3 P : Nat} {o1 o2 o3 : Obj}
theorem over_k {l : List Nat} {wd R : Nat} {t1 t2 t3 : Tok} {k3 : Int} (hl : ∀ c ∈ l, c < 256) (hz : l.length ≤ 900) (hw : 0 < wd) (hw2 : wd ≤ 20) (hR2 : R ≤ 20) (hR : l.length = R * wd)
    (d1 : o1.data = .cell (some (.bytes (bytesOf l) t1))) (d2 : o2.data = .cell (some (.int (wd : Nat) t2))) (d3 : o3.data = .cell (some (.int k3 t3))) (e3 : k3 = (R : Nat))
    (B : Below A₀ base outer h₀) (F : Fr h₀ L s.heap m) (X : (K w.params).In h₀) (N : News h₀ L s.heap [(c3, o3), (c2, o2), (c1, o1)]) (T : Top q loose mean mg mb h₀)
    (hd : dp + 12 < recursionLimit) (hu : un + 100 < cLine)
    (hret : ∀ (D : Nat) h tk ys, IntsAre ys ((trs l wd R).map fun c : Nat => (c : Int)) → Fr h₀ L h m → News h₀ L h ((D, LCg.lst ys) :: [(c3, o3), (c2, o2), (c1, o1)]) → (∀ p ∈ [(c3, o3), (c2, o2), (c1, o1)], p.1 ≠ D) → Q (.ref D) { s with heap := h, toks := tk }) :
    wpAny (model pw w) (ktrTop dp un gd "_law_deed" f_law_deed_s L 767 ccd (deedCl c1 c2 c3) outer) (eval deL (envX "_law_deed" f_law_deed_s L 767 ccd (deedCl c1 c2 c3))) Q E s := by
  subst e3
  exact over_c hl hz hw hw2 hR2 hR d1 d2 d3 B F X N T hd hu hret
end
theorem kw43 : True := by
  k_with "eval ListComp" => (k_here; (with_unfolding_all refine' over_k ?rl ?rz ?rw ?rw2 ?rR2 ?rR ?r1 ?r2 ?r3 ?rk ?rB ?rF ?rX ?rN ?rT ?rd ?ru ?_; (case rN => k_asm); (case r1 => assumption); (case r2 => assumption); (case rR => assumption); (case rl => assumption); (case rz => assumption); (case rw => assumption); (case rw2 => assumption); (case rR2 => assumption); (case r3 => assumption); (case rk => assumption); (case rB => k_asm); (case rF => k_asm); (case rX => k_asm); (case rT => k_asm); (case rd => ktr_room); (case ru => ktr_units); k_whole); intro zD9 zh9 ztk9 zys9 zhy9 zF9 zN9 zo9; (try dsimp only))
  k_with "call type:bytes" => (k_here; (with_unfolding_all refine' bytes_made (by rfl) ?rF ?rN ?rm ?rs ?rc ?rz ?_; (case rN => k_asm); (case rF => k_asm); (case rm => exact List.mem_cons_self); (case rs => assumption); (case rc => assumption); (case rz => assumption); k_whole); intro zh9 zt9 zk9 zF9 zN9; (try dsimp only))
  trivial
theorem trs_mem {l : List Nat} {wd R c : Nat} (hl : ∀ c ∈ l, c < 256) (h : c ∈ trs l wd R) : c < 256 := by
  simp only [trs, List.mem_flatMap, List.mem_map, List.mem_range] at h
  obtain ⟨x, _, y, _, rfl⟩ := h
  rw [List.getD_eq_getElem?_getD]
  cases e : l[y * wd + x]? with
  | none => decide
  | some v => exact hl v (List.mem_of_getElem? e)
theorem flat_len (R : Nat) (f : Nat → Nat → Nat) : ∀ n, ((List.range n).flatMap fun x => (List.range R).map (f x)).length = n * R
  | 0 => by simp
  | n + 1 => by
    rw [List.range_succ, List.flatMap_append, List.length_append, flat_len R f n, Nat.succ_mul]
    simp
theorem trs_len {l : List Nat} {wd R : Nat} : (trs l wd R).length = wd * R := flat_len R _ wd
section
variable {w : World} {mean : ExcName → Option Value} {mg mb : Str → Option Value} {dp un : Nat} {gd : Option (List Code)} {outer : List Env} {A₀ : Around} {base h₀ : Heap} {L : Addr} {ccd : Value} {m : Str → Option Value} {rest news : List (Addr × Obj)} {s : Shared} {Q : Flow → Shared → Prop} {E : Value → Shared → Prop} {c1 c2 c3 P : Nat} {o1 o2 o3 : Obj}
theorem deed_over {l : List Nat} {wd R : Nat} {t1 t2 t3 : Tok} (hl : ∀ c ∈ l, c < 256) (hz : l.length ≤ 900) (hw : 0 < wd) (hw2 : wd ≤ 20) (hR2 : R ≤ 20) (hR : l.length = R * wd) (hP : h₀.get? P = some (pic l wd t1 t2))
    (d1 : o1.data = .cell none) (d2 : o2.data = .cell none) (d3 : o3.data = .cell none) (n12 : c1 ≠ c2) (n13 : c1 ≠ c3) (n23 : c2 ≠ c3) (hL3 : h₀.objs.size ≤ c3)
    (B : Below A₀ base outer h₀) (F : Fr h₀ L s.heap (fun y => if y = "word" then some (.str "over" t3) else if y = "picture" then some (.ref P) else none)) (X : (K w.params).In h₀) (N : News h₀ L s.heap [(c3, o3), (c2, o2), (c1, o1)]) (T : Top q loose mean mg mb h₀)
    (hd : dp + 12 < recursionLimit) (hu : un + 100 < cLine)
    (hret : ∀ (P' : Nat) t1' t2' h' tk', (∀ b o, h₀.get? b = some o → h'.get? b = some o) → h'.get? P' = some (pic (trs l wd R) R t1' t2') → h₀.objs.size ≤ P' → Q (.ret (.ref P')) { s with heap := h', toks := tk' }) :
    wpAny (model pw w) (ktrTop dp un gd "_law_deed" f_law_deed_s L 767 ccd (deedCl c1 c2 c3) outer) (execs f_law_deed_b (envX "_law_deed" f_law_deed_s L 767 ccd (deedCl c1 c2 c3))) Q E s := by
  rw [deed_body]
  have hsz : (bytesOf l).size = l.length := bytesOf_size l
  have hdiv : Int.fdiv (((bytesOf l).size : Nat) : Int) ((wd : Nat) : Int) = ((R : Nat) : Int) := by
    rw [hsz, hR]
    push_cast
    exact Int.mul_fdiv_cancel _ (by omega)
  have htl := @trs_len l wd R
  have htz : (trs l wd R).length ≤ 1000 := by
    rw [htl]
    have := Nat.mul_le_mul hw2 hR2
    omega
  have htm : ∀ c ∈ trs l wd R, c < 256 := fun c hc => trs_mem hl hc
  refine wpAny_execs_cons (deed_0 hz hP ⟨_, hP, rfl, _, rfl⟩ d1 d2 d3 n12 n13 n23 B F X N T hd hu fun o1' o2' h1 tk1 e1 e2 F1 N1 => ?_)
  dsimp only
  unfold deP1 deP2 deP3 deP4
  clear F N d1 d2
  k_steps
  rename News h₀ L _ _ => N7
  rename Fr h₀ L _ _ => F7
  rw [hdiv] at N7
  have z := N7 _ List.mem_cons_self
  refine hret _ _ _ _ _ F7.keep z.1 ?_
  have hL3' : @LE.le Nat _ h₀.objs.size c3 := hL3
  show @LE.le Nat _ h₀.objs.size _
  omega
end
end Mine
end
section
open Lean Meta Elab PySem PySem.W PyProof.Rows PySem.Calls
set_option maxRecDepth 100000
set_option maxHeartbeats 0
set_option Elab.async false
set_option linter.unusedVariables false
namespace Mine
theorem fillBD : (fun (_ : Params → Frag) (_ : OpenLaw) => True) K rw1 := by k_fill; trivial
/-- a picture: its octets, its width, its height -/
structure Pic where
  l : List Nat
  wd : Nat
  ht : Nat
def deed (p : Pic) (k : Nat) : Pic := if k = 0 then ⟨swp p.l p.wd, p.wd, p.ht⟩ else if k = 1 then ⟨swp p.l p.l.length, p.wd, p.ht⟩ else ⟨trs p.l p.wd p.ht, p.ht, p.wd⟩
structure Ok (p : Pic) : Prop where
  lt : ∀ c ∈ p.l, c < 256
  w0 : 0 < p.wd
  w1 : p.wd ≤ 20
  h0 : 0 < p.ht
  h1 : p.ht ≤ 20
  len : p.l.length = p.ht * p.wd
theorem swp_mem {l : List Nat} {wd c : Nat} (hl : ∀ c ∈ l, c < 256) (h : c ∈ swp l wd) : c < 256 := by
  simp only [swp, List.mem_map, List.mem_range] at h
  obtain ⟨x, _, rfl⟩ := h
  rw [List.getD_eq_getElem?_getD]
  cases e : l[x / wd * wd + (wd - 1 - x % wd)]? with
  | none => decide
  | some v => exact hl v (List.mem_of_getElem? e)
theorem Ok.deed {p : Pic} (h : Ok p) (k : Nat) : Ok (deed p k) := by
  unfold Mine.deed
  split
  · exact ⟨fun c hc => swp_mem h.lt hc, h.w0, h.w1, h.h0, h.h1, (swp_len _ _).trans h.len⟩
  · split
    · exact ⟨fun c hc => swp_mem h.lt hc, h.w0, h.w1, h.h0, h.h1, (swp_len _ _).trans h.len⟩
    · exact ⟨fun c hc => trs_mem h.lt hc, h.h0, h.h1, h.w0, h.w1, trs_len⟩
theorem Ok.small {p : Pic} (h : Ok p) : p.l.length ≤ 900 ∧ 0 < p.l.length := by
  rw [h.len]
  exact ⟨Nat.le_trans (Nat.mul_le_mul h.h1 h.w1) (by decide), Nat.mul_pos h.h0 h.w0⟩
section
variable {w : World} {mean : ExcName → Option Value} {mg mb : Str → Option Value} {dp un : Nat} {gd : Option (List Code)} {cn : Str} {cs : Scope} {a : Addr} {ccd : Value} {cl : List (Str × Addr)} {outer : List Env} {A₀ : Around} {base h₀ : Heap} {L : Addr} {m : Str → Option Value} {s : Shared} {Q E : Value → Shared → Prop}
theorem deed_c {k P : Nat} {p : Pic} {t1 t2 t3 : Tok} (hk : k < 3) (ok : Ok p) (hP : s.heap.get? P = some (pic p.l p.wd t1 t2))
    (B : Below A₀ base outer h₀) (F : Fr h₀ L s.heap m) (X : (K w.params).In h₀) (T : Top q loose mean mg mb h₀) (hkind : cs.kind = .function)
    (hd : dp + 14 < recursionLimit) (hu : un + 120 < cLine)
    (hret : ∀ (P' : Nat) t1' t2' h' tk', (∀ b o, s.heap.get? b = some o → h'.get? b = some o) → h'.get? P' = some (pic (deed p k).l (deed p k).wd t1' t2') → s.heap.objs.size ≤ P' → Q (.ref P') { s with heap := h', toks := tk' }) :
    wpG (model pw w) (ktrTop dp un gd cn cs L a ccd cl outer) (call (.ref 767) [.ref P, .str (nm k) t3]) Q E s := by
  have X' := X.keeps F.keep
  have B' := pushX (env := envX cn cs L a ccd cl) B F rfl hkind
  refine wpG_call ?_
  refine codeG_call_cells (binds := [("picture", .ref P), ("word", .str (nm k) t3)]) (by show dp < _; omega) (X' 767 _ (by k_is)) rfl (T.nolimit.keeps F.keep) (codeRec_of X' (by k_is)) (BindsTo.of_eq rfl) (kindsX (by rfl)) (by decide) ?_ rfl rfl rfl
  intro L' h₁ tk cells F₁ N₁ Y
  rw [deed_cl] at Y
  obtain ⟨o1, o2, o3, N, d1, d2, d3⟩ : ∃ o1 o2 o3 : Obj, News s.heap L' h₁ [(L' + 1 + 1 + 1, o3), (L' + 1 + 1, o2), (L' + 1, o1)] ∧ o1.data = .cell none ∧ o2.data = .cell none ∧ o3.data = .cell none := by
    cases Y with
    | cons d3 r =>
      cases r with
      | cons d2 r =>
        cases r with
        | cons d1 r =>
          cases r
          exact ⟨_, _, _, N₁, d1, d2, d3⟩
  have n12 : @Ne Nat (L' + 1) (L' + 1 + 1) := Nat.ne_of_lt (Nat.lt_succ_self _)
  have n23 : @Ne Nat (L' + 1 + 1) (L' + 1 + 1 + 1) := Nat.ne_of_lt (Nat.lt_succ_self _)
  have n13 : @Ne Nat (L' + 1) (L' + 1 + 1 + 1) := Nat.ne_of_lt (Nat.lt_succ_of_lt (Nat.lt_succ_self _))
  obtain ⟨z1, z2⟩ := ok.small
  have hk3 : k = 0 ∨ k = 1 ∨ k = 2 := by omega
  rcases hk3 with rfl | rfl | rfl
  · exact deed_side (dp := dp + 1) (un := un + 3) (outer := envX cn cs L a ccd cl :: outer) (h₀ := s.heap) (R := p.ht) ok.lt z1 ok.w0 (Nat.le_trans ok.w1 (by decide)) ok.len hP d1 d2 d3 n12 n13 n23 B' F₁ X' N (T.keeps F.keep) (by omega) (by omega) fun P' t1' t2' h' tk' a b c => hret P' t1' t2' h' tk' a b c
  · exact deed_about (dp := dp + 1) (un := un + 3) (outer := envX cn cs L a ccd cl :: outer) (h₀ := s.heap) (R := 0) ok.lt z1 ok.w0 (Nat.le_trans ok.w1 (by decide)) z2 hP d1 d2 d3 n12 n13 n23 B' F₁ X' N (T.keeps F.keep) (by omega) (by omega) fun P' t1' t2' h' tk' a b c => hret P' t1' t2' h' tk' a b c
  · exact wpG.of (deed_over (dp := dp + 1) (un := un + 3) (outer := envX cn cs L a ccd cl :: outer) (h₀ := s.heap) (R := p.ht) ok.lt z1 ok.w0 ok.w1 ok.h1 ok.len hP d1 d2 d3 n12 n13 n23 (Nat.le_succ_of_le (Nat.le_succ_of_le (Nat.le_succ_of_le F₁.above))) B' F₁ X' N (T.keeps F.keep) (by omega) (by omega) fun P' t1' t2' h' tk' a b c => hret P' t1' t2' h' tk' a b c)
end
end Mine
end
section
open Lean Meta Elab PySem PySem.W PyProof.Rows PySem.Calls
set_option maxRecDepth 100000
set_option maxHeartbeats 0
set_option Elab.async false
set_option linter.unusedVariables false
namespace Mine
theorem fillBE : (fun (_ : Params → Frag) (_ : OpenLaw) => True) K rw1 := by k_fill; trivial
theorem kw44 : True := by
  k_with_none
  k_with "c_enter" => (refine' code_def ?k1 ?k2 ?k3 ?k4 ?k5 ?kA ?kF ?kK ?k6 ?k7 ?zk8 ?zk9 ?kB ?_ ?c2 ?c3 ?c4 ?c5; (case kA => exact rfl); (case kF => exact rfl); (case kK => assumption); (case k1 => k_asm); (case k2 => k_asm); (case k3 => k_asm); (case k4 => k_asm); (case k5 => k_asm); (case k6 => k_is); (case k7 => k_is); (case zk8 => ktr_room); (case zk9 => first | exact BindsTo.of_eq rfl | exact binds_K (by k_in) rfl (by k_is) rfl rfl rfl | fail "c_enter: the arguments"); (case c5 => decide); (case kB => exact locs rfl); (case c2 => exact rfl); (case c3 => exact rfl); (case c4 => exact rfl); k_whole; intro zg' zL' zh' zFG' zF' zN' zB' zX' zT'; (try dsimp only); (try k_fold))
  k_with "compareOp In str str" => (k_here; (first | with_reducible refine in_ch (by with_reducible assumption) ?_ | with_reducible refine in_nil ?_ | with_reducible refine in_b (b := false) (by decide +kernel) ?_ | with_reducible refine in_b (b := true) (by decide +kernel) ?_))
  k_with "compareOp NotIn str str" => (k_here; (first | with_reducible refine notin_ch (by with_reducible assumption) ?_ | with_reducible refine notin_nil ?_))
  k_with "compareOp Eq str str" => (k_here; (first | with_reducible refine eq_b (by with_reducible assumption) ?_ | with_reducible refine eq_b (b := false) (by decide +kernel) ?_ | with_reducible refine eq_b (b := true) (by decide +kernel) ?_))
  k_with "truthy str" => (k_here; (first | with_reducible refine truthy_ch ?_ | with_reducible refine truthy_nil ?_ | with_reducible refine truthy_p (by with_reducible assumption) (by with_reducible assumption) ?_); intro zk9)
  k_with "s_enter" => (refine' code_defS ?k1 ?k2 ?k3 ?k4 ?k5 ?XB ?TB ?D ?T0 ?kA ?k6 ?k7 ?zk8 ?zk9 ?kB ?_ ?cK ?c2 ?c3 ?c4 ?c5; (case kA => exact rfl); (case k2 => k_asm); (case k1 => k_asm); (case XB => exact Gd.x (by assumption)); (case TB => exact Gd.t (by assumption)); (case D => assumption); (case T0 => exact KtsTurn.refl); (case k3 => k_asm); (case k4 => k_asm); (case k5 => k_asm); (case k6 => k_is); (case k7 => k_is); (case zk8 => ktr_room); (case zk9 => first | exact BindsTo.of_eq rfl | exact binds_K (by k_in) rfl (by k_is) rfl rfl rfl | fail "s_enter: the arguments"); (case kB => exact locs rfl); (case cK => first | exact rfl | assumption); (case c2 => exact rfl); (case c3 => exact rfl); (case c4 => exact rfl); (case c5 => decide); k_whole; intro zg' zL' zh' zFG' zF' zN' zB' zX' zT' zD'; (try dsimp only); (try k_fold))
  trivial
noncomputable def rbW : Stmt := litOf (stm freduce_b 2) (by conv => rhs; whnf)
noncomputable def rbB : List Stmt := litOf (match stm freduce_b 2 with | .For _ _ b _ _ => b | _ => []) (by conv => rhs; whnf)
noncomputable def rbP0 : Stmt := litOf (stm freduce_b 0) (by conv => rhs; whnf)
noncomputable def rbP1 : Stmt := litOf (stm freduce_b 1) (by conv => rhs; whnf)
noncomputable def rbP3 : Stmt := litOf (stm freduce_b 3) (by conv => rhs; whnf)
theorem rb_body : freduce_b = [rbP0, rbP1, rbW, rbP3] := by with_unfolding_all rfl
abbrev liO (S : Addr) : Obj := { cls := .type "list_iterator", data := .fields #[.ref S, .int 0 0] }
theorem call_iter_list {prog : Program} {w : World} {A : Around} {E : Value → Shared → Prop} {s : Shared} {h₀ : Heap} {L : Addr} {m : Str → Option Value} {news : List (Addr × Obj)} {S : Addr} {vs : Array Value} {Q : Value → Shared → Prop} (hl : h₀.IsList S vs) (F : Fr h₀ L s.heap m) (N : News h₀ L s.heap news)
    (h : ∀ (I : Nat) h', S ≠ I → Fr h₀ L h' m → News h₀ L h' ((I, liO S) :: news) → (∀ p ∈ news, p.1 < I) → Q (.ref I) { s with heap := h' }) :
    wpAny (model prog w) A (call (.builtin "iter") [.ref S]) Q E s := by
  have hl' : s.heap.IsList S vs := let ⟨o, e, r⟩ := hl; ⟨o, F.keep _ _ e, r⟩
  have hlt : S < s.heap.objs.size := by obtain ⟨_, e, _⟩ := hl'; exact Heap.lt_size e
  refine call_function_entry (by decide +kernel) (by decide +kernel) kdk_entry_iter (kdk_args_iter _) ?_
  unfold Builtin.«iter»
  refine wpAny_bind (m := someArgs "iter" 1 2 _) (wpAny_of_eq (a := [Value.ref S]) (by first | rfl | kernel_rfl!) ?_)
  show wpAny _ _ (pyIter (.ref S) >>= _) _ _ _
  refine wpAny_bind (wpAny_pyIter_list hl' ?_)
  exact wpAny_pure ⟨_, rfl, h _ _ (Nat.ne_of_lt hlt) (F.push _) (News.push F N _) (fun q hq => Heap.lt_size (N q hq).1)⟩
theorem strs_get {vs : List Value} {W : List Str} (h : StrsAre vs W) {i : Nat} {v : Value} (hv : vs[i]? = some v) : ∃ x t, W[i]? = some x ∧ v = .str x t := by
  induction h generalizing i with
  | nil => cases hv
  | cons y t r ih =>
    cases i with
    | zero => exact ⟨y, t, rfl, (Option.some.inj hv).symm⟩
    | succ i => exact ih hv
section
variable {w : World} {mean : ExcName → Option Value} {mg mb : Str → Option Value} {dp un : Nat} {gd : Option (List Code)} {outer : List Env} {A₀ : Around} {base h₀ : Heap} {L : Addr} {m : Str → Option Value} {news : List (Addr × Obj)} {s : Shared} {Q : Flow → Shared → Prop} {E : Value → Shared → Prop}
theorem rb_turn {k P : Nat} {p : Pic} {t1 t2 t3 : Tok} {m₀ : Str → Option Value} (hk : k < 3) (ok : Ok p) (hP : s.heap.get? P = some (pic p.l p.wd t1 t2))
    (B : Below A₀ base outer h₀) (X : (K w.params).In h₀) (T : Top q loose mean mg mb h₀)
    (F : Fr h₀ L s.heap (fun y => if y = "element" then some (.str (nm k) t3) else if y = "value" then some (.ref P) else if y = "function" then some (.ref 767) else m₀ y)) (N : News h₀ L s.heap news)
    (hd : dp + 16 < recursionLimit) (hu : un + 130 < cLine)
    (hret : ∀ (P' : Nat) t1' t2' h' tk', (∀ b o, b ≠ L → s.heap.get? b = some o → h'.get? b = some o) → P' ≠ L → h'.get? P' = some (pic (deed p k).l (deed p k).wd t1' t2') → s.heap.objs.size ≤ P' → Fr h₀ L h' (fun y => if y = "value" then some (.ref P') else if y = "element" then some (.str (nm k) t3) else if y = "value" then some (.ref P) else if y = "function" then some (.ref 767) else m₀ y) → Q .next { s with heap := h', toks := tk' }) :
    wpG (model pw w) (ktrTop dp un gd "reduce" freduce_s L 55 (.ref 54) [] outer) (execs rbB (envOf "reduce" freduce_s L 55 (.ref 54))) Q E s := by
  unfold rbB
  refine wpG_execs_cons ?_
  show wpG _ _ (exec (.Assign [.Name "value" _] (.Call (.Name "function" _) _ [] _) _) _) _ _ _
  refine wpG_Assign_Name (wpG_Call ?_)
  k_steps
  refine wpG_callWith_K (K := K w.params) (by k_is) (wpG.of ?_)
  k_steps
  refine deed_c hk ok hP B (by k_asm) X T rfl (by omega) (by omega) fun P' t1' t2' h' tk' kp gP nP => ?_
  have hL : @Ne Nat P' L := Nat.ne_of_gt (Nat.lt_of_lt_of_le F.ns.lt nP)
  refine wpAny_storeName_local (by rfl) ((F.keeps kp).ns) (fun h'' hn hs => ?_) (by rfl)
  refine wpG.of (wpAny_execs_nil ?_)
  exact hret P' t1' t2' _ _ (fun b o hb e => hs.extBut b o hb (kp b o e)) hL (hs.extBut _ _ hL gP) nP ((F.keeps kp).set hn hs)
end
end Mine
end
section
open Lean Meta Elab PySem PySem.W PyProof.Rows PySem.Calls
set_option maxRecDepth 100000
set_option maxHeartbeats 0
set_option Elab.async false
set_option linter.unusedVariables false
namespace Mine
theorem fillBF : (fun (_ : Params → Frag) (_ : OpenLaw) => True) K rw1 := by k_fill; trivial
theorem fr_normR {h₀ h : Heap} {L : Addr} {m : Str → Option Value} {v₁ v₂ v₃ : Value} (F : Fr h₀ L h (fun (y : Str) => if y = ("element" : Str) then some v₁ else m y)) (a : m "value" = some v₂) (b : m "function" = some v₃) :
    Fr h₀ L h (fun (y : Str) => if y = ("element" : Str) then some v₁ else if y = ("value" : Str) then some v₂ else if y = ("function" : Str) then some v₃ else m y) := by
  have e : (fun (y : Str) => if y = ("element" : Str) then some v₁ else if y = ("value" : Str) then some v₂ else if y = ("function" : Str) then some v₃ else m y) = (fun (y : Str) => if y = ("element" : Str) then some v₁ else m y) := by
    funext y
    split
    · rfl
    · split
      · rename_i h; rw [h, a]
      · split
        · rename_i h; rw [h, b]
        · rfl
  rw [e]; exact F
def deeds (p : Pic) (ks : List Nat) : Pic := ks.foldl deed p
theorem Ok.deeds {p : Pic} (ok : Ok p) (ks : List Nat) : Ok (deeds p ks) := by
  unfold Mine.deeds
  induction ks generalizing p with
  | nil => exact ok
  | cons k r ih => exact ih (ok.deed k)
theorem deeds_take (p : Pic) (ks : List Nat) {i k : Nat} (h : ks[i]? = some k) : deeds p (ks.take (i + 1)) = deed (deeds p (ks.take i)) k := by
  unfold deeds
  rw [List.take_add_one, h]
  simp
section
variable {w : World} {mean : ExcName → Option Value} {mg mb : Str → Option Value} {dp un : Nat} {gd : Option (List Code)} {outer : List Env} {A₀ : Around} {base h₀ : Heap} {L : Addr} {m : Str → Option Value} {news : List (Addr × Obj)} {s : Shared} {Q : Flow → Shared → Prop} {E : Value → Shared → Prop}
theorem rb_loop {I S P : Nat} {p : Pic} {ks : List Nat} {vs : List Value} {t1 t2 : Tok} (hks : ∀ k ∈ ks, k < 3) (ok : Ok p) (hP : s.heap.get? P = some (pic p.l p.wd t1 t2)) (hl : h₀.IsList S vs.toArray) (hs : StrsAre vs (ks.map nm))
    (B : Below A₀ base outer h₀) (F : Fr h₀ L s.heap m) (X : (K w.params).In h₀) (T : Top q loose mean mg mb h₀)
    (hI : s.heap.IsListIter I S 0) (hSI : S ≠ I) (hLI : L ≠ I) (hI0 : h₀.get? I = none) (hPL : P ≠ L) (hPI : P ≠ I)
    (m1 : m "function" = some (.ref 767)) (m2 : m "it" = some (.ref I)) (m3 : m "value" = some (.ref P))
    (hd : dp + 16 < recursionLimit) (hu : un + 130 < cLine)
    (hret : ∀ (P' : Nat) t1' t2' h' tk' m', Fr h₀ L h' m' → m' "value" = some (.ref P') → h'.get? P' = some (pic (deeds p ks).l (deeds p ks).wd t1' t2') → (P' = P ∨ h₀.objs.size ≤ P') → Q .next { s with heap := h', toks := tk' }) :
    wpG (model pw w) (ktrTop dp un gd "reduce" freduce_s L 55 (.ref 54) [] outer) (exec rbW (envOf "reduce" freduce_s L 55 (.ref 54))) Q E s := by
  have W : Walks pw w (ktrTop dp un gd "reduce" freduce_s L 55 (.ref 54) [] outer) I [I, S] [I] vs.toArray.size (fun i v => vs.toArray[i]? = some v) (fun i h => h.IsListIter I S i ∧ h.IsList S vs.toArray) := Walks.list rfl I S hSI vs.toArray
  have nL : h₀.get? L = none := kts_self F
  have hSL : S ≠ L := fun e => by obtain ⟨o, e1, _⟩ := hl; rw [e, nL] at e1; cases e1
  have hl' : s.heap.IsList S vs.toArray := let ⟨o, e, r⟩ := hl; ⟨o, F.keep _ _ e, r⟩
  have hvs : vs.length = ks.length := by have := hs.length; rwa [List.length_map] at this
  show wpG _ _ (exec (.For (.Name "element" _) (.Name "it" _) rbB [] _) _) _ _ _
  refine wpG_For ?_
  refine ld F m2 ?_
  refine W.self 0 _ _ _ ⟨hI, hl'⟩ ?_
  refine codeG_forLoop (fun k s' => ∃ (i : Nat) (h' : Heap) (tk' : Nat) (m' : Str → Option Value) (P' : Nat) (t1 t2 : Tok), s' = { s with heap := h', toks := tk' } ∧ i ≤ vs.length ∧ k = vs.length + 1 - i ∧ (h'.IsListIter I S i ∧ h'.IsList S vs.toArray) ∧ Fr h₀ L h' m' ∧ m' "function" = some (.ref 767) ∧ m' "value" = some (.ref P') ∧
      h'.get? P' = some (pic (deeds p (ks.take i)).l (deeds p (ks.take i)).wd t1 t2) ∧ P' ≠ L ∧ P' ≠ I ∧ (P' = P ∨ h₀.objs.size ≤ P')) ?_ (vs.length + 1) ⟨0, s.heap, s.toks, m, P, t1, t2, rfl, by omega, rfl, ⟨hI, hl'⟩, F, m1, m3, hP, hPL, hPI, .inl rfl⟩
  rintro k s' ⟨i, h', tk', m', P', u1, u2, rfl, hi, rfl, hst, F', f1, f3, gP, nPL, nPI, fP⟩
  have next : ∀ h₁ : Heap, (∀ b o, b ∉ [I] → h'.get? b = some o → h₁.get? b = some o) → Fr h₀ L h₁ m' := fun h₁ hk₁ => LCg.fr_but F' hk₁ hLI hI0
  by_cases hlt : i < vs.length
  · refine W.item i _ _ _ (by simpa using hlt) hst fun v h₂ tk₂ hv hst₂ hk₂ => ?_
    rw [List.getElem?_toArray] at hv
    obtain ⟨x, t3, hx, rfl⟩ := strs_get hs hv
    rw [List.getElem?_map] at hx
    obtain ⟨k, hk, rfl⟩ := Option.map_eq_some_iff.mp hx
    have F₂ := next h₂ hk₂
    have gP₂ := hk₂ _ _ (by simpa using nPI) gP
    refine wpAny_assign_Name (wpAny_storeName_local (by rfl) F₂.ns (fun h₃ hn₃ hs₃ => ?_) (by rfl))
    have F₃ := F₂.set hn₃ hs₃
    have gP₃ := hs₃.extBut _ _ nPL gP₂
    have st₃ : h₃.IsListIter I S (i + 1) ∧ h₃.IsList S vs.toArray := W.frame _ _ _ hst₂ fun b hb o e => hs₃.extBut b o (fun q => by
      simp only [List.mem_cons, List.not_mem_nil, or_false] at hb
      rcases hb with h | h
      · exact hLI (q.symm.trans h)
      · exact hSL (h.symm.trans q)) e
    refine rb_turn (hks k (List.mem_of_getElem? hk)) (ok.deeds _) gP₃ B X T (fr_normR F₃ f3 f1) News.nil hd hu fun P₄ v1 v2 h₄ tk₄ kp nL₄ gP₄ nP₄ F₄ => ?_
    have nI₄ : @Ne Nat P₄ I := by
      obtain ⟨⟨o, e1, _⟩, _⟩ := st₃
      exact Nat.ne_of_gt (Nat.lt_of_lt_of_le (Heap.lt_size e1) nP₄)
    refine ⟨rfl, vs.length + 1 - (i + 1), by omega, i + 1, h₄, tk₄, _, P₄, v1, v2, rfl, hlt, rfl, ?_, F₄, ?_, ?_, ?_, nL₄, nI₄, .inr ?_⟩
    · exact W.frame _ _ _ st₃ fun b hb o e => kp b o (fun q => by
        simp only [List.mem_cons, List.not_mem_nil, or_false] at hb
        rcases hb with h | h
        · exact hLI (q.symm.trans h)
        · exact hSL (h.symm.trans q)) e
    · rfl
    · rfl
    · rw [deeds_take p ks hk]; exact gP₄
    · exact Nat.le_trans F₃.above (Nat.le_of_lt (Nat.lt_of_lt_of_le F₃.ns.lt nP₄))
  · obtain rfl : i = vs.length := by omega
    have hz : vs.toArray.size = vs.length := by simp
    refine W.done _ _ _ (by rw [hz]; exact hst) fun h₁ tk₁ hk₁ => ?_
    have gP₁ := hk₁ _ _ (by simpa using nPI) gP
    rw [hvs, List.take_length] at gP₁
    exact hret P' u1 u2 h₁ tk₁ m' (next h₁ hk₁) f3 gP₁ fP
end
end Mine
end
section
open Lean Meta Elab PySem PySem.W PyProof.Rows PySem.Calls
set_option maxRecDepth 100000
set_option maxHeartbeats 0
set_option Elab.async false
set_option linter.unusedVariables false
namespace Mine
theorem fillBG : (fun (_ : Params → Frag) (_ : OpenLaw) => True) K rw1 := by k_fill; trivial
theorem kw45 : True := by
  k_with_none
  k_with "c_enter" => (refine' code_def ?k1 ?k2 ?k3 ?k4 ?k5 ?kA ?kF ?kK ?k6 ?k7 ?zk8 ?zk9 ?kB ?_ ?c2 ?c3 ?c4 ?c5; (case kA => exact rfl); (case kF => exact rfl); (case kK => assumption); (case k1 => k_asm); (case k2 => k_asm); (case k3 => k_asm); (case k4 => k_asm); (case k5 => k_asm); (case k6 => k_is); (case k7 => k_is); (case zk8 => ktr_room); (case zk9 => first | exact BindsTo.of_eq rfl | exact binds_K (by k_in) rfl (by k_is) rfl rfl rfl | fail "c_enter: the arguments"); (case c5 => decide); (case kB => exact locs rfl); (case c2 => exact rfl); (case c3 => exact rfl); (case c4 => exact rfl); k_whole; intro zg' zL' zh' zFG' zF' zN' zB' zX' zT'; (try dsimp only); (try k_fold))
  k_with "compareOp In str str" => (k_here; (first | with_reducible refine in_ch (by with_reducible assumption) ?_ | with_reducible refine in_nil ?_ | with_reducible refine in_b (b := false) (by decide +kernel) ?_ | with_reducible refine in_b (b := true) (by decide +kernel) ?_))
  k_with "compareOp NotIn str str" => (k_here; (first | with_reducible refine notin_ch (by with_reducible assumption) ?_ | with_reducible refine notin_nil ?_))
  k_with "compareOp Eq str str" => (k_here; (first | with_reducible refine eq_b (by with_reducible assumption) ?_ | with_reducible refine eq_b (b := false) (by decide +kernel) ?_ | with_reducible refine eq_b (b := true) (by decide +kernel) ?_))
  k_with "truthy str" => (k_here; (first | with_reducible refine truthy_ch ?_ | with_reducible refine truthy_nil ?_ | with_reducible refine truthy_p (by with_reducible assumption) (by with_reducible assumption) ?_); intro zk9)
  k_with "s_enter" => (refine' code_defS ?k1 ?k2 ?k3 ?k4 ?k5 ?XB ?TB ?D ?T0 ?kA ?k6 ?k7 ?zk8 ?zk9 ?kB ?_ ?cK ?c2 ?c3 ?c4 ?c5; (case kA => exact rfl); (case k2 => k_asm); (case k1 => k_asm); (case XB => exact Gd.x (by assumption)); (case TB => exact Gd.t (by assumption)); (case D => assumption); (case T0 => exact KtsTurn.refl); (case k3 => k_asm); (case k4 => k_asm); (case k5 => k_asm); (case k6 => k_is); (case k7 => k_is); (case zk8 => ktr_room); (case zk9 => first | exact BindsTo.of_eq rfl | exact binds_K (by k_in) rfl (by k_is) rfl rfl rfl | fail "s_enter: the arguments"); (case kB => exact locs rfl); (case cK => first | exact rfl | assumption); (case c2 => exact rfl); (case c3 => exact rfl); (case c4 => exact rfl); (case c5 => decide); k_whole; intro zg' zL' zh' zFG' zF' zN' zB' zX' zT' zD'; (try dsimp only); (try k_fold))
  trivial
theorem is_pic {M : Model} {A : Around} {E : Value → Shared → Prop} {s : Shared} {Q : Value → Shared → Prop} {a b L : Addr} {oa ob : Obj} {h₀ : Heap} {m : Str → Option Value} (F : Fr h₀ L s.heap m) (ha : h₀.get? a = some oa) (hb : h₀.get? b = some ob) (hc : ob.cls = .type "object") (hd : oa.cls = .type "tuple") (h : Q (.bool false) s) : wpAny M A (compareOp .Is (.ref a) (.ref b)) Q E s := by
  have hne : a ≠ b := fun e => by
    rw [e, hb] at ha
    cases ha
    rw [hc] at hd
    have := Value.type.inj hd
    exact absurd this (by decide)
  show wpAny M A (do return .bool (← isSame (.ref a) (.ref b))) Q E s
  refine wpAny_bind ?_
  show wpAny M A (if (a == b) = true then pure true else _) _ E s
  rw [if_neg (by simpa using hne)]
  refine wpAny_bind (wpAny_load (F.keep _ _ ha) (wpAny_bind (wpAny_load (F.keep _ _ hb) ?_)))
  split
  · rename_i h1 h2 _ _
    rw [hc] at h2
    exact absurd (Value.type.inj h2) (by decide)
  · exact wpAny_pure (wpAny_pure h)
theorem kw46 : True := by
  k_with "compareOp Is ref ref" => (k_here; k_dflt (refine' is_pic ?rF ?ra ?rb ?rc ?rd ?_; (case rF => k_asm); (case ra => assumption); (case rb => assumption); (case rc => exact rfl); (case rd => exact rfl); k_whole))
  k_with "call builtin:iter" => (k_here; k_dflt (refine' call_iter_list ?rl ?rF ?rN ?_; (case rl => assumption); (case rF => k_asm); (case rN => k_asm); k_whole); intro zI9 zh9 zq9 zF9 zN9 zl9; (try k_lt zl9); (try dsimp only))
  trivial
section
variable {w : World} {mean : ExcName → Option Value} {mg mb : Str → Option Value} {dp un : Nat} {gd : Option (List Code)} {outer : List Env} {A₀ : Around} {base h₀ : Heap} {L : Addr} {m : Str → Option Value} {news : List (Addr × Obj)} {s : Shared} {Q : Flow → Shared → Prop} {E : Value → Shared → Prop}
theorem rb_b {S P : Nat} {p : Pic} {ks : List Nat} {vs : List Value} {t1 t2 : Tok} (hks : ∀ k ∈ ks, k < 3) (ok : Ok p) (hP : h₀.get? P = some (pic p.l p.wd t1 t2)) (hl : h₀.IsList S vs.toArray) (hs : StrsAre vs (ks.map nm))
    (B : Below A₀ base outer h₀) (F : Fr h₀ L s.heap (fun y => if y = "initial" then some (.ref P) else if y = "sequence" then some (.ref S) else if y = "function" then some (.ref 767) else none)) (X : (K w.params).In h₀) (T : Top q loose mean mg mb h₀)
    (hd : dp + 16 < recursionLimit) (hu : un + 130 < cLine)
    (hret : ∀ (P' : Nat) t1' t2' h' tk' m', Fr h₀ L h' m' → h'.get? P' = some (pic (deeds p ks).l (deeds p ks).wd t1' t2') → (P' = P ∨ h₀.objs.size ≤ P') → Q (.ret (.ref P')) { s with heap := h', toks := tk' }) :
    wpG (model pw w) (ktrTop dp un gd "reduce" freduce_s L 55 (.ref 54) [] outer) (execs freduce_b (envOf "reduce" freduce_s L 55 (.ref 54))) Q E s := by
  have nL : h₀.get? L = none := kts_self F
  have hPL : P ≠ L := fun e => by rw [e, nL] at hP; cases hP
  have e47 : h₀.get? 47 = some (ob47 w.params) := X 47 _ (by k_is)
  have N0 : News h₀ L s.heap [] := News.nil
  rw [rb_body]
  refine wpG_execs_cons (wpG.of ?_)
  unfold rbP0
  k_steps
  dsimp only
  refine wpG_execs_cons (wpG.of ?_)
  unfold rbP1
  k_steps
  dsimp only
  rename News h₀ L _ _ => N7
  rename Fr h₀ L _ _ => F7
  have z := N7 _ List.mem_cons_self
  have gP := F7.keep _ _ hP
  refine wpG_execs_cons (rb_loop hks ok gP hl hs B F7 X T ⟨_, z.1, rfl, rfl⟩ (by assumption) (Ne.symm z.2.1) z.2.2 hPL (fun e => ?_) rfl rfl rfl hd hu fun P' t1' t2' h' tk' m' F' f3 g' c' => ?_)
  · have z2 := z.2.2
    rw [← e, hP] at z2
    cases z2
  · refine wpG.of ?_
    unfold rbP3
    k_steps
    refine ld F' f3 ?_
    exact hret _ _ _ _ _ _ F' g' c'
end
theorem look1 {n a : Str} {x : Value} {l : List (Str × Value)} : List.lookup n ((a, x) :: l) = if n = a then some x else l.lookup n := by
  rw [List.lookup_cons]
  by_cases h : n = a
  · rw [if_pos h, beq_iff_eq.mpr h]
  · rw [if_neg h, beq_eq_false_iff_ne.mpr h]
theorem look3 {a b c : Str} {x y z : Value} : (fun n => ([(a, x), (b, y), (c, z)] : List (Str × Value)).reverse.lookup n) = fun n => if n = c then some z else if n = b then some y else if n = a then some x else none := by
  funext n
  simp only [List.reverse_cons, List.reverse_nil, List.nil_append, List.cons_append, look1, List.lookup_nil]
section
variable {w : World} {mean : ExcName → Option Value} {mg mb : Str → Option Value} {dp un : Nat} {gd : Option (List Code)} {cn : Str} {cs : Scope} {a : Addr} {ccd : Value} {cl : List (Str × Addr)} {outer : List Env} {A₀ : Around} {base h₀ : Heap} {L : Addr} {m : Str → Option Value} {s : Shared} {Q E : Value → Shared → Prop}
theorem reduce_c {S P : Nat} {p : Pic} {ks : List Nat} {vs : List Value} {t1 t2 : Tok} (hks : ∀ k ∈ ks, k < 3) (ok : Ok p) (hP : s.heap.get? P = some (pic p.l p.wd t1 t2)) (hl : s.heap.IsList S vs.toArray) (hs : StrsAre vs (ks.map nm))
    (B : Below A₀ base outer h₀) (F : Fr h₀ L s.heap m) (X : (K w.params).In h₀) (T : Top q loose mean mg mb h₀) (hkind : cs.kind = .function)
    (hd : dp + 18 < recursionLimit) (hu : un + 140 < cLine)
    (hret : ∀ (P' : Nat) t1' t2' h' tk', (∀ b o, s.heap.get? b = some o → h'.get? b = some o) → h'.get? P' = some (pic (deeds p ks).l (deeds p ks).wd t1' t2') → (P' = P ∨ s.heap.objs.size ≤ P') → Q (.ref P') { s with heap := h', toks := tk' }) :
    wpG (model pw w) (ktrTop dp un gd cn cs L a ccd cl outer) (call (.ref 55) [.ref 767, .ref S, .ref P]) Q E s := by
  have X' := X.keeps F.keep
  have B' := pushX (env := envX cn cs L a ccd cl) B F rfl hkind
  refine wpG_call ?_
  refine codeG_call_def (binds := [("function", .ref 767), ("sequence", .ref S), ("initial", .ref P)]) (by show dp < _; omega) (X' 55 _ (by k_is)) rfl (T.nolimit.keeps F.keep) (codeRec_of X' (by k_is)) rfl (binds_K X' rfl (by k_is) rfl rfl rfl) (by decide) (locs rfl) ?_ rfl rfl rfl
  intro h₁ hns hk₁
  rw [look3] at hns
  have F₁ : Fr s.heap s.heap.objs.size h₁ _ := ⟨hns, hk₁, Nat.le_refl _⟩
  exact rb_b (dp := dp + 1) (un := un + 3) (outer := envX cn cs L a ccd cl :: outer) (h₀ := s.heap) hks ok hP hl hs B' F₁ X' (T.keeps F.keep) (by omega) (by omega) fun P' t1' t2' h' tk' m' F' g' c' => hret P' t1' t2' h' tk' F'.keep g' c'
end
end Mine
end
section
open Lean Meta Elab PySem PySem.W PyProof.Rows
set_option maxRecDepth 100000
set_option maxHeartbeats 0
set_option Elab.async false
set_option linter.unusedVariables false
namespace Mine
theorem fillBH : (fun (_ : Params → Frag) (_ : OpenLaw) => True) K rw1 := by k_fill; trivial
theorem kw47 : True := by
  k_with_none
  k_with "c_enter" => (refine' code_def ?k1 ?k2 ?k3 ?k4 ?k5 ?kA ?kF ?kK ?k6 ?k7 ?zk8 ?zk9 ?kB ?_ ?c2 ?c3 ?c4 ?c5; (case kA => exact rfl); (case kF => exact rfl); (case kK => assumption); (case k1 => k_asm); (case k2 => k_asm); (case k3 => k_asm); (case k4 => k_asm); (case k5 => k_asm); (case k6 => k_is); (case k7 => k_is); (case zk8 => ktr_room); (case zk9 => first | exact BindsTo.of_eq rfl | exact binds_K (by k_in) rfl (by k_is) rfl rfl rfl | fail "c_enter: the arguments"); (case c5 => decide); (case kB => exact locs rfl); (case c2 => exact rfl); (case c3 => exact rfl); (case c4 => exact rfl); k_whole; intro zg' zL' zh' zFG' zF' zN' zB' zX' zT'; (try dsimp only); (try k_fold))
  k_with "compareOp In str str" => (k_here; (first | with_reducible refine in_ch (by with_reducible assumption) ?_ | with_reducible refine in_nil ?_ | with_reducible refine in_b (b := false) (by decide +kernel) ?_ | with_reducible refine in_b (b := true) (by decide +kernel) ?_))
  k_with "compareOp NotIn str str" => (k_here; (first | with_reducible refine notin_ch (by with_reducible assumption) ?_ | with_reducible refine notin_nil ?_))
  k_with "compareOp Eq str str" => (k_here; (first | with_reducible refine eq_b (by with_reducible assumption) ?_ | with_reducible refine eq_b (b := false) (by decide +kernel) ?_ | with_reducible refine eq_b (b := true) (by decide +kernel) ?_))
  k_with "truthy str" => (k_here; (first | with_reducible refine truthy_ch ?_ | with_reducible refine truthy_nil ?_ | with_reducible refine truthy_p (by with_reducible assumption) (by with_reducible assumption) ?_); intro zk9)
  k_with "s_enter" => (refine' code_defS ?k1 ?k2 ?k3 ?k4 ?k5 ?XB ?TB ?D ?T0 ?kA ?k6 ?k7 ?zk8 ?zk9 ?kB ?_ ?cK ?c2 ?c3 ?c4 ?c5; (case kA => exact rfl); (case k2 => k_asm); (case k1 => k_asm); (case XB => exact Gd.x (by assumption)); (case TB => exact Gd.t (by assumption)); (case D => assumption); (case T0 => exact KtsTurn.refl); (case k3 => k_asm); (case k4 => k_asm); (case k5 => k_asm); (case k6 => k_is); (case k7 => k_is); (case zk8 => ktr_room); (case zk9 => first | exact BindsTo.of_eq rfl | exact binds_K (by k_in) rfl (by k_is) rfl rfl rfl | fail "s_enter: the arguments"); (case kB => exact locs rfl); (case cK => first | exact rfl | assumption); (case c2 => exact rfl); (case c3 => exact rfl); (case c4 => exact rfl); (case c5 => decide); k_whole; intro zg' zL' zh' zFG' zF' zN' zB' zX' zT' zD'; (try dsimp only); (try k_fold))
  trivial
theorem newsDrop2 {h₀ h : Heap} {L : Addr} {p q : Addr × Obj} {l : List (Addr × Obj)} (N : News h₀ L h (p :: q :: l)) : News h₀ L h (p :: l) := newsSub N fun x hx => by
  rcases List.mem_cons.mp hx with rfl | hx
  · exact List.mem_cons_self
  · exact List.mem_cons_of_mem _ (List.mem_cons_of_mem _ hx)
abbrev lawCl (c1 c2 c3 c4 c5 c6 c7 : Nat) : List (Str × Addr) := [("wide", c7), ("crossed", c6), ("flips", c5), ("kinds", c4), ("octets", c3), ("size", c2), ("drawn", c1)]
theorem law_cl (L : Nat) : cellsFrom (L + 1) flaw_s.names [] = lawCl (L + 1) (L + 1 + 1) (L + 1 + 1 + 1) (L + 1 + 1 + 1 + 1) (L + 1 + 1 + 1 + 1 + 1) (L + 1 + 1 + 1 + 1 + 1 + 1) (L + 1 + 1 + 1 + 1 + 1 + 1 + 1) := by first | rfl | with_unfolding_all rfl
noncomputable def lw0 : Stmt := litOf (stm flaw_b 0) (by conv => rhs; whnf)
noncomputable def lw1 : Stmt := litOf (stm flaw_b 1) (by conv => rhs; whnf)
noncomputable def lw2 : Stmt := litOf (stm flaw_b 2) (by conv => rhs; whnf)
noncomputable def lw3 : Stmt := litOf (stm flaw_b 3) (by conv => rhs; whnf)
noncomputable def lw4 : Stmt := litOf (stm flaw_b 4) (by conv => rhs; whnf)
noncomputable def lw5 : Stmt := litOf (stm flaw_b 5) (by conv => rhs; whnf)
noncomputable def lw6 : Stmt := litOf (stm flaw_b 6) (by conv => rhs; whnf)
noncomputable def lw7 : Stmt := litOf (stm flaw_b 7) (by conv => rhs; whnf)
noncomputable def lw8 : Stmt := litOf (stm flaw_b 8) (by conv => rhs; whnf)
noncomputable def lw9 : Stmt := litOf (stm flaw_b 9) (by conv => rhs; whnf)
noncomputable def lw10 : Stmt := litOf (stm flaw_b 10) (by conv => rhs; whnf)
noncomputable def lw11 : Stmt := litOf (stm flaw_b 11) (by conv => rhs; whnf)
noncomputable def lw12 : Stmt := litOf (stm flaw_b 12) (by conv => rhs; whnf)
noncomputable def lw13 : Stmt := litOf (stm flaw_b 13) (by conv => rhs; whnf)
noncomputable def lw14 : Stmt := litOf (stm flaw_b 14) (by conv => rhs; whnf)
theorem law_body : flaw_b = [lw0, lw1, lw2, lw3, lw4, lw5, lw6, lw7, lw8, lw9, lw10, lw11, lw12, lw13, lw14] := by with_unfolding_all rfl
section
variable {w : World} {mean : ExcName → Option Value} {mg mb : Str → Option Value} {dp un : Nat} {gd : Option (List Code)} {outer : List Env} {A₀ : Around} {base h₀ : Heap} {L fa : Addr} {ccd : Value} {m : Str → Option Value} {s : Shared} {Q : Flow → Shared → Prop} {E : Value → Shared → Prop} {l : Addr} {vs : List Value} {ns : List Int} {o1 o2 o3 o4 o5 o6 o7 : Obj} {c1 c2 c3 c4 c5 c6 c7 : Nat}
theorem law_0 (hl : h₀.IsList l vs.toArray) (hi : IntsAre vs ns) (hn : ns.length ≤ 63) (d1 : o1.data = .cell none) (hc : c1 < c2 ∧ c2 < c3 ∧ c3 < c4 ∧ c4 < c5 ∧ c5 < c6 ∧ c6 < c7)
    (B : Below A₀ base outer h₀) (F : Fr h₀ L s.heap (fun y => if y = "script" then some (.ref l) else none)) (X : (K w.params).In h₀) (N : News h₀ L s.heap [(c7, o7), (c6, o6), (c5, o5), (c4, o4), (c3, o3), (c2, o2), (c1, o1)]) (T : Top q loose mean mg mb h₀)
    (hd : dp + 8 < recursionLimit) (hu : un + 100 < cLine)
    (hret : ∀ (D : Nat) h' tk' o1' zs, c7 < D → o1'.data = .cell (some (.ref D)) → IntsAre zs ((ns ++ [4, 0, 2]).take 7) → Fr h₀ L h' (fun y => if y = "script" then some (.ref l) else none) → News h₀ L h' [(D, W.listOf zs.toArray 0), (c7, o7), (c6, o6), (c5, o5), (c4, o4), (c3, o3), (c2, o2), (c1, o1')] → Q .next { s with heap := h', toks := tk' }) :
    wpAny (model pw w) (ktrTop dp un gd "law" flaw_s L fa ccd (lawCl c1 c2 c3 c4 c5 c6 c7) outer) (exec lw0 (envX "law" flaw_s L fa ccd (lawCl c1 c2 c3 c4 c5 c6 c7))) Q E s := by
  obtain ⟨q0, q1, q2, q3, q4, q5⟩ := hc
  have s2 : c1 < c3 := Nat.lt_trans q0 q1
  have s3 : c1 < c4 := Nat.lt_trans s2 q2
  have s4 : c1 < c5 := Nat.lt_trans s3 q3
  have s5 : c1 < c6 := Nat.lt_trans s4 q4
  have s6 : c1 < c7 := Nat.lt_trans s5 q5
  clear q1 q2 q3 q4 q5
  unfold lw0
  k_steps
  rename News h₀ L _ _ => N9
  rename Fr h₀ L _ _ => F9
  refine hret _ _ _ _ _ ?a ?b ?c F9 (newsDrop2 (newsDrop2 (newsDrop2 N9)))
  case a => omega
  case b => assumption
  case c => assumption
theorem law_1 {D ht wd : Nat} {zs : List Value} {ds : List Int} {d0 : Int} (eh : 2 + Int.fmod d0 3 = (ht : Nat)) (ew : 2 + Int.fmod (Int.fdiv d0 3) 3 = (wd : Nat)) (hz : IntsAre zs (d0 :: ds)) (hn : ds.length ≤ 6) (d1 : o1.data = .cell (some (.ref D))) (d2 : o2.data = .cell none) (hc : c1 < c2 ∧ c2 < c3 ∧ c3 < c4 ∧ c4 < c5 ∧ c5 < c6 ∧ c6 < c7 ∧ c7 < D)
    (B : Below A₀ base outer h₀) (F : Fr h₀ L s.heap m) (X : (K w.params).In h₀) (N : News h₀ L s.heap [(D, W.listOf zs.toArray 0), (c7, o7), (c6, o6), (c5, o5), (c4, o4), (c3, o3), (c2, o2), (c1, o1)]) (T : Top q loose mean mg mb h₀)
    (hd : dp + 8 < recursionLimit) (hu : un + 100 < cLine)
    (hret : ∀ (Z : Nat) h' tk' o2' t1 t2, D < Z → o2'.data = .cell (some (.ref Z)) → Fr h₀ L h' m → News h₀ L h' [(Z, W.listOf #[.int (ht : Nat) t1, .int (wd : Nat) t2] 0), (D, W.listOf zs.toArray 0), (c7, o7), (c6, o6), (c5, o5), (c4, o4), (c3, o3), (c2, o2'), (c1, o1)] → Q .next { s with heap := h', toks := tk' }) :
    wpAny (model pw w) (ktrTop dp un gd "law" flaw_s L fa ccd (lawCl c1 c2 c3 c4 c5 c6 c7) outer) (exec lw1 (envX "law" flaw_s L fa ccd (lawCl c1 c2 c3 c4 c5 c6 c7))) Q E s := by
  obtain ⟨q0, q1, q2, q3, q4, q5, q6⟩ := hc
  have s3 : c2 < c4 := Nat.lt_trans q1 q2
  have s4 : c2 < c5 := Nat.lt_trans s3 q3
  have s5 : c2 < c6 := Nat.lt_trans s4 q4
  have s6 : c2 < c7 := Nat.lt_trans s5 q5
  have s7 : c2 < D := Nat.lt_trans s6 q6
  clear q2 q3 q4 q5 q6
  unfold lw1
  k_steps
  rename News h₀ L _ _ => N9
  rename Fr h₀ L _ _ => F9
  change News h₀ L _ [(_, W.listOf #[.int (2 + d0.fmod 3) _, .int (2 + (d0.fdiv 3).fmod 3) _] 0), _, _, _, _, _, _, _, _] at N9
  rw [eh, ew] at N9
  refine hret _ _ _ _ _ _ ?a ?b F9 N9
  case a => omega
  case b => assumption
end
end Mine
end
section
open Lean Meta Elab PySem PySem.W PyProof.Rows
set_option maxRecDepth 100000
set_option maxHeartbeats 0
set_option Elab.async false
set_option linter.unusedVariables false
namespace Mine
theorem fillBI : (fun (_ : Params → Frag) (_ : OpenLaw) => True) K rw1 := by k_fill; trivial
theorem kw48 : True := by
  k_with_none
  k_with "c_enter" => (refine' code_def ?k1 ?k2 ?k3 ?k4 ?k5 ?kA ?kF ?kK ?k6 ?k7 ?zk8 ?zk9 ?kB ?_ ?c2 ?c3 ?c4 ?c5; (case kA => exact rfl); (case kF => exact rfl); (case kK => assumption); (case k1 => k_asm); (case k2 => k_asm); (case k3 => k_asm); (case k4 => k_asm); (case k5 => k_asm); (case k6 => k_is); (case k7 => k_is); (case zk8 => ktr_room); (case zk9 => first | exact BindsTo.of_eq rfl | exact binds_K (by k_in) rfl (by k_is) rfl rfl rfl | fail "c_enter: the arguments"); (case c5 => decide); (case kB => exact locs rfl); (case c2 => exact rfl); (case c3 => exact rfl); (case c4 => exact rfl); k_whole; intro zg' zL' zh' zFG' zF' zN' zB' zX' zT'; (try dsimp only); (try k_fold))
  k_with "compareOp In str str" => (k_here; (first | with_reducible refine in_ch (by with_reducible assumption) ?_ | with_reducible refine in_nil ?_ | with_reducible refine in_b (b := false) (by decide +kernel) ?_ | with_reducible refine in_b (b := true) (by decide +kernel) ?_))
  k_with "compareOp NotIn str str" => (k_here; (first | with_reducible refine notin_ch (by with_reducible assumption) ?_ | with_reducible refine notin_nil ?_))
  k_with "compareOp Eq str str" => (k_here; (first | with_reducible refine eq_b (by with_reducible assumption) ?_ | with_reducible refine eq_b (b := false) (by decide +kernel) ?_ | with_reducible refine eq_b (b := true) (by decide +kernel) ?_))
  k_with "truthy str" => (k_here; (first | with_reducible refine truthy_ch ?_ | with_reducible refine truthy_nil ?_ | with_reducible refine truthy_p (by with_reducible assumption) (by with_reducible assumption) ?_); intro zk9)
  k_with "s_enter" => (refine' code_defS ?k1 ?k2 ?k3 ?k4 ?k5 ?XB ?TB ?D ?T0 ?kA ?k6 ?k7 ?zk8 ?zk9 ?kB ?_ ?cK ?c2 ?c3 ?c4 ?c5; (case kA => exact rfl); (case k2 => k_asm); (case k1 => k_asm); (case XB => exact Gd.x (by assumption)); (case TB => exact Gd.t (by assumption)); (case D => assumption); (case T0 => exact KtsTurn.refl); (case k3 => k_asm); (case k4 => k_asm); (case k5 => k_asm); (case k6 => k_is); (case k7 => k_is); (case zk8 => ktr_room); (case zk9 => first | exact BindsTo.of_eq rfl | exact binds_K (by k_in) rfl (by k_is) rfl rfl rfl | fail "s_enter: the arguments"); (case kB => exact locs rfl); (case cK => first | exact rfl | assumption); (case c2 => exact rfl); (case c3 => exact rfl); (case c4 => exact rfl); (case c5 => decide); k_whole; intro zg' zL' zh' zFG' zF' zN' zB' zX' zT' zD'; (try dsimp only); (try k_fold))
  trivial
noncomputable def lwL2 : PySem.Expr := litOf (match lw2 with | .Assign _ (.Call _ (l :: _) _ _) _ => l | _ => .Constant .none 0 default) (by conv => rhs; whnf)
noncomputable def lwE2 : PySem.Expr := litOf (match lwL2 with | .ListComp e _ _ _ => e | _ => .Constant .none 0 default) (by conv => rhs; whnf)
noncomputable def lwS2 : Scope := litOf (match lwL2 with | .ListComp _ _ sc _ => sc | _ => default) (by conv => rhs; whnf)
def oct (d0 : Int) (k : Nat) : Nat := (Int.fmod (Int.fdiv d0 9 + (k : Int)) 256).toNat
def octs (d0 : Int) (n : Nat) : List Nat := (List.range n).map (oct d0)
theorem oct_eq (d0 : Int) (k : Nat) : Int.fmod (Int.fdiv d0 9 + (0 + (k : Int))) 256 = ((oct d0 k : Nat) : Int) := by
  unfold oct
  have h : 0 ≤ Int.fmod (Int.fdiv d0 9 + (k : Int)) 256 := Int.fmod_nonneg_of_pos _ (by omega)
  rw [Int.zero_add]
  omega
theorem oct_lt (d0 : Int) (k : Nat) : oct d0 k < 256 := by
  unfold oct
  have h : Int.fmod (Int.fdiv d0 9 + (k : Int)) 256 < 256 := Int.fmod_lt_of_pos _ (by omega)
  omega
section
variable {w : World} {mean : ExcName → Option Value} {mg mb : Str → Option Value} {dp un : Nat} {gd : Option (List Code)} {outer : List Env} {A₀ : Around} {base h₀ : Heap} {L fa : Addr} {ccd : Value} {m : Str → Option Value} {s : Shared} {E : Value → Shared → Prop} {o1 o2 o3 o4 o5 o6 o7 : Obj} {c1 c2 c3 c4 c5 c6 c7 : Nat}
theorem oct_src {r : Addr} {k : Int} {n D Z : Nat} {zs : List Value} {ds : List Int} {d0 : Int} {t u v : Tok} {oZ : Obj} {Fin : Shared → List Value → List (Addr × Obj) → Prop} (hr : IsRange s.heap r 0 k 1 t u v) (ek : k = (n : Nat)) (hn : n ≤ 100) (hz : IntsAre zs (d0 :: ds)) (d1 : o1.data = .cell (some (.ref D)))
    (B : Below A₀ base outer h₀) (F : Fr h₀ L s.heap m) (X : (K w.params).In h₀) (N : News h₀ L s.heap [(Z, oZ), (D, W.listOf zs.toArray 0), (c7, o7), (c6, o6), (c5, o5), (c4, o4), (c3, o3), (c2, o2), (c1, o1)]) (T : Top q loose mean mg mb h₀) (hd : dp + 4 < recursionLimit) (hu : un + 40 < cLine)
    (hfin : ∀ g ys, IntsAre ys ((octs d0 n).map fun c : Nat => (c : Int)) → Fin { s with heap := g } ys [(Z, oZ), (D, W.listOf zs.toArray 0), (c7, o7), (c6, o6), (c5, o5), (c4, o4), (c3, o3), (c2, o2), (c1, o1)]) :
    LCg.CompSrc pw w (ktrTop dp un gd "law" flaw_s L fa ccd (lawCl c1 c2 c3 c4 c5 c6 c7) outer) h₀ L m (envX "law" flaw_s L fa ccd (lawCl c1 c2 c3 c4 c5 c6 c7)) lwE2 "k" lwS2 [("drawn", c1)] Fin (.ref r) s := by
  subst ek
  have e : Builtin.Range.rangeSize 0 (n : Int) 1 = (n : Int) := by rw [rangeSize_nat]; omega
  refine LCg.CompSrc.range rfl F N hr (small_c (k := (n : Int)) (by omega) (by omega) (by omega) (by omega) e (by omega) (by omega)) e (by rw [sizeLine_eq]; omega) fun g => ?_
  refine rest_gen (fun i ys => IntsAre ys ((octs d0 i).map fun c : Nat => (c : Int))) .nil ?_ ?_
  · intro i v I oI C oC D' m₂ ys h tk E' hi hP hR hC hx F' N' off ne
    obtain ⟨t, rfl⟩ := hP
    have hnext : ∀ t', IntsAre (ys ++ [.int (Int.fmod (Int.fdiv d0 9 + (0 + (i : Int))) 256) t']) ((octs d0 (i + 1)).map fun c : Nat => (c : Int)) := by
      intro t'
      rw [oct_eq]
      unfold octs
      rw [List.range_succ, List.map_append, List.map_append]
      exact ints_snocG hR
    unfold lwE2 lwS2
    k_steps
    all_goals exact LCg.CompEnd.intro (by assumption) (by assumption) _ (fun p hp => hp) off trivial ⟨rfl, hnext _⟩
  · intro ys hR
    exact hfin _ ys hR
end
end Mine
end
section
open Lean Meta Elab PySem PySem.W PyProof.Rows
set_option maxRecDepth 100000
set_option maxHeartbeats 0
set_option Elab.async false
set_option linter.unusedVariables false
namespace Mine
theorem fillBJ : (fun (_ : Params → Frag) (_ : OpenLaw) => True) K rw1 := by k_fill; trivial
theorem kw49 : True := by
  k_with_none
  k_with "c_enter" => (refine' code_def ?k1 ?k2 ?k3 ?k4 ?k5 ?kA ?kF ?kK ?k6 ?k7 ?zk8 ?zk9 ?kB ?_ ?c2 ?c3 ?c4 ?c5; (case kA => exact rfl); (case kF => exact rfl); (case kK => assumption); (case k1 => k_asm); (case k2 => k_asm); (case k3 => k_asm); (case k4 => k_asm); (case k5 => k_asm); (case k6 => k_is); (case k7 => k_is); (case zk8 => ktr_room); (case zk9 => first | exact BindsTo.of_eq rfl | exact binds_K (by k_in) rfl (by k_is) rfl rfl rfl | fail "c_enter: the arguments"); (case c5 => decide); (case kB => exact locs rfl); (case c2 => exact rfl); (case c3 => exact rfl); (case c4 => exact rfl); k_whole; intro zg' zL' zh' zFG' zF' zN' zB' zX' zT'; (try dsimp only); (try k_fold))
  k_with "compareOp In str str" => (k_here; (first | with_reducible refine in_ch (by with_reducible assumption) ?_ | with_reducible refine in_nil ?_ | with_reducible refine in_b (b := false) (by decide +kernel) ?_ | with_reducible refine in_b (b := true) (by decide +kernel) ?_))
  k_with "compareOp NotIn str str" => (k_here; (first | with_reducible refine notin_ch (by with_reducible assumption) ?_ | with_reducible refine notin_nil ?_))
  k_with "compareOp Eq str str" => (k_here; (first | with_reducible refine eq_b (by with_reducible assumption) ?_ | with_reducible refine eq_b (b := false) (by decide +kernel) ?_ | with_reducible refine eq_b (b := true) (by decide +kernel) ?_))
  k_with "truthy str" => (k_here; (first | with_reducible refine truthy_ch ?_ | with_reducible refine truthy_nil ?_ | with_reducible refine truthy_p (by with_reducible assumption) (by with_reducible assumption) ?_); intro zk9)
  k_with "s_enter" => (refine' code_defS ?k1 ?k2 ?k3 ?k4 ?k5 ?XB ?TB ?D ?T0 ?kA ?k6 ?k7 ?zk8 ?zk9 ?kB ?_ ?cK ?c2 ?c3 ?c4 ?c5; (case kA => exact rfl); (case k2 => k_asm); (case k1 => k_asm); (case XB => exact Gd.x (by assumption)); (case TB => exact Gd.t (by assumption)); (case D => assumption); (case T0 => exact KtsTurn.refl); (case k3 => k_asm); (case k4 => k_asm); (case k5 => k_asm); (case k6 => k_is); (case k7 => k_is); (case zk8 => ktr_room); (case zk9 => first | exact BindsTo.of_eq rfl | exact binds_K (by k_in) rfl (by k_is) rfl rfl rfl | fail "s_enter: the arguments"); (case kB => exact locs rfl); (case cK => first | exact rfl | assumption); (case c2 => exact rfl); (case c3 => exact rfl); (case c4 => exact rfl); (case c5 => decide); k_whole; intro zg' zL' zh' zFG' zF' zN' zB' zX' zT' zD'; (try dsimp only); (try k_fold))
  k_with "eval ListComp" => (k_here; k_dflt (refine LCg.ListComp_U (F₀ := by k_asm) (by rfl) (by decide) (by rfl) (by decide) (by rfl) ?_))
  k_with "CompSrc" => (k_here; k_dflt (refine' oct_src ?rr ?rk ?rn ?rv ?r1 ?rB ?rF ?rX ?rN ?rT ?rd ?ru ?_; (case rN => k_asm); (case rr => assumption); (case rk => assumption); (case rn => assumption); (case rv => with_reducible assumption); (case r1 => assumption); (case rB => k_asm); (case rF => k_asm); (case rX => k_asm); (case rT => k_asm); (case rd => ktr_room); (case ru => ktr_units); k_whole); intro zg9 zys9 zhi9; (try dsimp only))
  trivial
theorem bytes_drop {prog : Program} {w : World} {A : Around} {E : Value → Shared → Prop} {s : Shared} {h₀ : Heap} {L : Addr} {D : Addr} {ys : List Value} {codes : List Nat} {m : Str → Option Value} {news : List (Addr × Obj)} {Q : Value → Shared → Prop} (hh : A.handled = none)
    (F : Fr h₀ L s.heap m) (N : News h₀ L s.heap ((D, LCg.lst ys) :: news)) (hs : IntsAre ys (codes.map fun c : Nat => (c : Int))) (hc : ∀ c ∈ codes, c < 256) (hn : codes.length ≤ 1000)
    (h : ∀ h' t k, Fr h₀ L h' m → News h₀ L h' news → Q (.bytes (bytesOf codes) t) { s with heap := h', toks := k }) : wpAny (model prog w) A (call (.type "bytes") [.ref D]) Q E s :=
  bytes_made hh F N List.mem_cons_self hs hc hn fun h' t k F' N' => h h' t k F' (newsSub N' fun _ hp => List.mem_cons_of_mem _ hp)
theorem kw50 : True := by
  k_with "FinE" => (intro zD9 zh9 ztk9 zF9 zN9 zo9; clear zo9; (try dsimp only))
  k_with "call type:bytes" => (k_here; k_dflt (refine' bytes_drop ?rh ?rF ?rN ?rs ?rc ?rn ?_; (case rh => rfl); (case rN => k_asm); (case rF => k_asm); (case rs => assumption); (case rc => assumption); (case rn => assumption); k_whole); intro zh9 zt9 zk9 zF9 zN9; (try dsimp only))
  trivial
section
variable {w : World} {mean : ExcName → Option Value} {mg mb : Str → Option Value} {dp un : Nat} {gd : Option (List Code)} {outer : List Env} {A₀ : Around} {base h₀ : Heap} {L fa : Addr} {ccd : Value} {m : Str → Option Value} {s : Shared} {Q : Flow → Shared → Prop} {E : Value → Shared → Prop} {o1 o2 o3 o4 o5 o6 o7 : Obj} {c1 c2 c3 c4 c5 c6 c7 : Nat}
theorem law_2 {D Z ht wd : Nat} {zs : List Value} {ds : List Int} {d0 : Int} {t1 t2 : Tok} (hht : ht ≤ 4) (hwd : wd ≤ 4) (hz : IntsAre zs (d0 :: ds)) (d1 : o1.data = .cell (some (.ref D))) (d2 : o2.data = .cell (some (.ref Z))) (d3 : o3.data = .cell none) (hc : c1 < c2 ∧ c2 < c3 ∧ c3 < c4 ∧ c4 < c5 ∧ c5 < c6 ∧ c6 < c7 ∧ c7 < D ∧ D < Z)
    (B : Below A₀ base outer h₀) (F : Fr h₀ L s.heap m) (X : (K w.params).In h₀) (N : News h₀ L s.heap [(Z, W.listOf #[.int (ht : Nat) t1, .int (wd : Nat) t2] 0), (D, W.listOf zs.toArray 0), (c7, o7), (c6, o6), (c5, o5), (c4, o4), (c3, o3), (c2, o2), (c1, o1)]) (T : Top q loose mean mg mb h₀)
    (hd : dp + 8 < recursionLimit) (hu : un + 100 < cLine)
    (hret : ∀ h' tk' o3' t, o3'.data = .cell (some (.bytes (bytesOf (octs d0 (ht * wd))) t)) → Fr h₀ L h' m → News h₀ L h' [(Z, W.listOf #[.int (ht : Nat) t1, .int (wd : Nat) t2] 0), (D, W.listOf zs.toArray 0), (c7, o7), (c6, o6), (c5, o5), (c4, o4), (c3, o3'), (c2, o2), (c1, o1)] → Q .next { s with heap := h', toks := tk' }) :
    wpAny (model pw w) (ktrTop dp un gd "law" flaw_s L fa ccd (lawCl c1 c2 c3 c4 c5 c6 c7) outer) (exec lw2 (envX "law" flaw_s L fa ccd (lawCl c1 c2 c3 c4 c5 c6 c7))) Q E s := by
  have hn : ht * wd ≤ 100 := Nat.le_trans (Nat.mul_le_mul hht hwd) (by decide)
  have ek : ((ht : Nat) : Int) * ((wd : Nat) : Int) = ((ht * wd : Nat) : Int) := by push_cast; rfl
  have hcl : ∀ c ∈ octs d0 (ht * wd), c < 256 := fun c hc => by
    obtain ⟨k, _, rfl⟩ := List.mem_map.mp hc
    exact oct_lt d0 k
  have hol : (octs d0 (ht * wd)).length ≤ 1000 := by unfold octs; rw [List.length_map, List.length_range]; omega
  obtain ⟨q0, q1, q2, q3, q4, q5, q6, q7⟩ := hc
  have s0 : c1 < c3 := Nat.lt_trans q0 q1
  have s4 : c3 < c5 := Nat.lt_trans q2 q3
  have s5 : c3 < c6 := Nat.lt_trans s4 q4
  have s6 : c3 < c7 := Nat.lt_trans s5 q5
  have s7 : c3 < D := Nat.lt_trans s6 q6
  have s8 : c3 < Z := Nat.lt_trans s7 q7
  clear q0 q3 q4 q5 q6 q7
  unfold lw2
  k_steps
  exact hret _ _ _ _ (by assumption) (by assumption) (by assumption)
end
end Mine
end
section
open Lean Meta Elab PySem PySem.W PyProof.Rows PySem.Calls PySem.Spec
set_option maxRecDepth 100000
set_option maxHeartbeats 0
set_option Elab.async false
set_option linter.unusedVariables false
namespace Mine
theorem newList_at {M : Model} {A : Around} {E : Value → Shared → Prop} {s : Shared} {P : Value → Shared → Prop} (h : wpAny M A (newList []) P E s) : wpAny M A (newList []) (fun acc s' => acc = .ref s.heap.objs.size ∧ P acc s') E s := fun Γ p hΓ => by
  have q := h Γ p hΓ
  revert q
  show Sem.wp M Γ (newList []) _ _ p s → _
  unfold newList newObj
  intro q
  exact ⟨rfl, q⟩
def FinN (h₀ : Heap) (L : Addr) (m : Str → Option Value) (s : Shared) (news : List (Addr × Obj)) (Q : Value → Shared → Prop) (ys : List Value) (news' : List (Addr × Obj)) : Prop :=
  news' = news ∧ ∀ (D : Nat) h tk, (∀ p ∈ news, p.1 < D) → Fr h₀ L h m → News h₀ L h ((D, LCg.lst ys) :: news) → Q (.ref D) { s with heap := h, toks := tk }
def SrcN (prog : Program) (w : World) (A : Around) (h₀ : Heap) (L : Addr) (m : Str → Option Value) (env : Env) (elt : PySem.Expr) (x : Str) (scope : Scope) (cl : List (Str × Addr)) (Q : Value → Shared → Prop) (it : Value) (s₂ : Shared) : Prop :=
  ∃ (news : List (Addr × Obj)) (I : Addr) (fp : List Addr) (n : Nat) (P : Nat → Value → Prop) (St : Nat → Heap → Prop) (S : List (Addr × Obj) → Prop), it = .ref I ∧ Walks prog w A I fp [I] n P St ∧ n ≤ sizeLine ∧ (∀ i h, St i h → ∃ o, h.get? I = some o) ∧
    (∀ i h h' o nw, St i h → h.get? I = some o → h'.get? I = some o → (∀ b o, h₀.get? b = some o → h'.get? b = some o) → News h₀ L h' nw → S nw → St i h') ∧ St 0 s₂.heap ∧ (∀ b ∈ fp, b < s₂.heap.objs.size) ∧ Fr h₀ L s₂.heap m ∧ News h₀ L s₂.heap news ∧ L ≠ I ∧ h₀.get? I = none ∧ (∀ p ∈ news, p.1 ≠ I) ∧ S news ∧
    LCg.CompRest prog w A h₀ L m env elt x scope cl s₂ S P (FinN h₀ L m s₂ news Q) n 0 [] news
section
variable {prog : Program} {w : World} {A : Around} {E : Value → Shared → Prop} {s : Shared} {h₀ : Heap} {L : Addr} {m : Str → Option Value} {env : Env}
theorem ListComp_N {elt iter : PySem.Expr} {x : Str} {px : Pos} {scope : Scope} {cl : List (Str × Addr)} {pos : Pos} {Q : Value → Shared → Prop} (F₀ : Fr h₀ L s.heap m)
    (hclos : closureFor scope env = pure cl) (hcell : ∀ y ∈ scope.names, y.2 ≠ .cell) (hkind : scope.kind = .function)
    (hnames : ∀ y ∈ scope.names, y.2 = .local → scope.names.lookup y.1 = some .local) (hx : scope.names.lookup x = some .local)
    (h : wpAny (model prog w) A (eval iter env) (fun xv s₁ => wpAny (model prog w) A (pyIter xv) (SrcN prog w A h₀ L m env elt x scope cl Q) E s₁) E s)
    (hs : ∀ x, foldedSetIterable iter env x = pure x := by intro _; rfl) :
    wpAny (model prog w) A (eval (.ListComp elt [⟨.Name x px, iter, [], 0⟩] scope pos) env) Q E s := by
  rw [eval_ListComp]
  refine wpAny_comprehension_free (use := none) rfl hs hclos hkind hnames (wpAny_mono h (fun xv s₁ h₁ => ?_) fun _ _ e => e)
  refine wpAny_mono h₁ (fun it s₂ h₂ => ?_) fun _ _ e => e
  obtain ⟨news, I, fp, n, P, St, S, rfl, W, hsz, hIo, hSt, hst, hfp, F, N, hLI, hI0, off, hS, R⟩ := h₂
  have q := LCg.block_U (E := E) (pos := pos) (iter := iter) (px := px) (RR := fun acc C r s' => acc = .ref s₂.heap.objs.size → compPost (model prog w) A E none Q acc C r s') W hsz hIo hSt hcell hkind hx hst hfp F N hLI hI0 off hS R (by
    intro D C h tk m' ys news' F' N' o1 hn hC₀ hD₀ hCL hDL hCD offC fin hD
    have hD' : D = s₂.heap.objs.size := Value.ref.inj hD
    obtain ⟨rfl, fin⟩ := fin
    refine ⟨m', hn, fun h'' hs'' => fin D h'' tk (fun p hp => ?_) (F'.change hs'' hCL hC₀) (fun p hp => ?_)⟩
    · rw [hD']; exact Heap.lt_size (N p hp).1
    · refine ⟨hs''.extBut _ _ ?_ (N' p hp).1, (N' p hp).2⟩
      rcases List.mem_cons.mp hp with rfl | hp
      · exact Ne.symm hCD
      · exact offC p hp)
  refine wpAny_mono (newList_at q) (fun acc s₃ hq => ?_) fun _ _ e => e
  obtain ⟨rfl, hq⟩ := hq
  exact wpAny_mono hq (fun cenv s₄ hq => codeAny_mono hq fun r s' hr => hr rfl) fun _ _ e => e
/-- a list of the ledger as a source -/
theorem list_srcN {elt : PySem.Expr} {x : Str} {scope : Scope} {cl : List (Str × Addr)} {Q : Value → Shared → Prop} {S : Addr} {its : List Value} {k : Nat} {news : List (Addr × Obj)} (hh : A.handled = none) (hz : its.length ≤ 1000) (F : Fr h₀ L s.heap m) (N : News h₀ L s.heap news)
    (hm : (S, ({ cls := .type "list", data := .seq its.toArray k } : Obj)) ∈ news)
    (R : Nat → List Value → Prop) (R0 : R 0 [])
    (turn : ∀ i v I oI C oC D m₂ ys h tk (E' : Value → Shared → Prop), i < its.length → its[i]? = some v → R i ys → LCg.NsObj oC m₂ → m₂ x = some v → Fr h₀ L h m → News h₀ L h ((I, oI) :: (C, oC) :: (D, LCg.lst ys) :: news) → LCg.Off3 I C D news → ((@Ne Nat I C) ∧ (@Ne Nat I D) ∧ (@Ne Nat C D)) →
      wpAny (model prog w) A (eval elt (compEnvC scope cl C env)) (fun y s' => ∃ h' tk', s' = { s with heap := h', toks := tk' } ∧ Fr h₀ L h' m ∧ News h₀ L h' ((I, oI) :: (C, oC) :: (D, LCg.lst ys) :: news) ∧ R (i + 1) (ys ++ [y])) E' { s with heap := h, toks := tk })
    (fin : ∀ ys, R its.length ys → ∀ (D : Nat) h tk, (∀ p ∈ news, p.1 < D) → Fr h₀ L h m → News h₀ L h ((D, LCg.lst ys) :: news) → Q (.ref D) { s with heap := h, toks := tk }) :
    wpAny (model prog w) A (pyIter (.ref S)) (SrcN prog w A h₀ L m env elt x scope cl Q) E s := by
  have hl : s.heap.IsList S its.toArray := ⟨_, (N _ hm).1, rfl, _, rfl⟩
  have hlt : S < s.heap.objs.size := Heap.lt_size (N _ hm).1
  have hsz : its.toArray.size = its.length := by simp
  refine wpAny_pyIter_list hl ?_
  have up : ∀ b o, s.heap.get? b = some o → (s.heap.push { cls := .type "list_iterator", data := .fields #[.ref S, .int 0 0] }).get? b = some o := fun b o e => Heap.get?_push_of_some _ e
  refine ⟨news, s.heap.objs.size, [s.heap.objs.size, S], its.toArray.size, _, _, fun nw => (S, ({ cls := .type "list", data := .seq its.toArray k } : Obj)) ∈ nw, rfl, Walks.list hh s.heap.objs.size S (Nat.ne_of_lt hlt) its.toArray, by rw [hsz, sizeLine_eq]; omega, fun i h st => by obtain ⟨o, e, _⟩ := st.1; exact ⟨o, e⟩, ?_, ⟨⟨_, Heap.get?_push_size _ rfl, rfl, rfl⟩, hl.push _⟩, ?_, F.keeps up, N.grown up, Nat.ne_of_lt F.ns.lt, next_is_new F, fun p hp => Nat.ne_of_lt (Heap.lt_size (N p hp).1), hm, ?_⟩
  · intro i h h' o nw st e e' kp N' hS
    refine ⟨?_, ⟨_, (N' _ hS).1, rfl, _, rfl⟩⟩
    obtain ⟨o', q, r⟩ := st.1
    rw [e] at q
    cases q
    exact ⟨o, e', r⟩
  · intro b hb
    show b < (s.heap.push _).objs.size
    rw [Heap.size_push]
    rcases List.mem_cons.mp hb with rfl | hb
    · exact Nat.lt_succ_self _
    · rw [List.mem_singleton.mp hb]; exact Nat.lt_succ_of_lt hlt
  · rw [hsz]
    refine rest_gen R R0 ?_ ?_
    · intro i v I oI C oC D m₂ ys h tk E' hi hP hR hC hx F' N' off ne
      rw [List.getElem?_toArray] at hP
      refine wpAny_mono (turn i v I oI C oC D m₂ ys h tk E' hi hP hR hC hx F' N' off ne) (fun y s₂ hq => ?_) fun _ _ e => e
      obtain ⟨h', tk', rfl, F₂, N₂, hr⟩ := hq
      exact LCg.CompEnd.intro F₂ N₂ news (fun p hp => hp) off hm ⟨rfl, hr⟩
    · intro ys hR
      exact ⟨rfl, fun D h tk lt F N => fin ys hR D h tk lt F N⟩
end
end Mine
end
section
open Lean Meta Elab PySem PySem.W PyProof.Rows
set_option maxRecDepth 100000
set_option maxHeartbeats 0
set_option Elab.async false
set_option linter.unusedVariables false
namespace Mine
theorem fillBK : (fun (_ : Params → Frag) (_ : OpenLaw) => True) K rw1 := by k_fill; trivial
theorem kw51 : True := by
  k_with_none
  k_with "c_enter" => (refine' code_def ?k1 ?k2 ?k3 ?k4 ?k5 ?kA ?kF ?kK ?k6 ?k7 ?zk8 ?zk9 ?kB ?_ ?c2 ?c3 ?c4 ?c5; (case kA => exact rfl); (case kF => exact rfl); (case kK => assumption); (case k1 => k_asm); (case k2 => k_asm); (case k3 => k_asm); (case k4 => k_asm); (case k5 => k_asm); (case k6 => k_is); (case k7 => k_is); (case zk8 => ktr_room); (case zk9 => first | exact BindsTo.of_eq rfl | exact binds_K (by k_in) rfl (by k_is) rfl rfl rfl | fail "c_enter: the arguments"); (case c5 => decide); (case kB => exact locs rfl); (case c2 => exact rfl); (case c3 => exact rfl); (case c4 => exact rfl); k_whole; intro zg' zL' zh' zFG' zF' zN' zB' zX' zT'; (try dsimp only); (try k_fold))
  k_with "compareOp In str str" => (k_here; (first | with_reducible refine in_ch (by with_reducible assumption) ?_ | with_reducible refine in_nil ?_ | with_reducible refine in_b (b := false) (by decide +kernel) ?_ | with_reducible refine in_b (b := true) (by decide +kernel) ?_))
  k_with "compareOp NotIn str str" => (k_here; (first | with_reducible refine notin_ch (by with_reducible assumption) ?_ | with_reducible refine notin_nil ?_))
  k_with "compareOp Eq str str" => (k_here; (first | with_reducible refine eq_b (by with_reducible assumption) ?_ | with_reducible refine eq_b (b := false) (by decide +kernel) ?_ | with_reducible refine eq_b (b := true) (by decide +kernel) ?_))
  k_with "truthy str" => (k_here; (first | with_reducible refine truthy_ch ?_ | with_reducible refine truthy_nil ?_ | with_reducible refine truthy_p (by with_reducible assumption) (by with_reducible assumption) ?_); intro zk9)
  k_with "s_enter" => (refine' code_defS ?k1 ?k2 ?k3 ?k4 ?k5 ?XB ?TB ?D ?T0 ?kA ?k6 ?k7 ?zk8 ?zk9 ?kB ?_ ?cK ?c2 ?c3 ?c4 ?c5; (case kA => exact rfl); (case k2 => k_asm); (case k1 => k_asm); (case XB => exact Gd.x (by assumption)); (case TB => exact Gd.t (by assumption)); (case D => assumption); (case T0 => exact KtsTurn.refl); (case k3 => k_asm); (case k4 => k_asm); (case k5 => k_asm); (case k6 => k_is); (case k7 => k_is); (case zk8 => ktr_room); (case zk9 => first | exact BindsTo.of_eq rfl | exact binds_K (by k_in) rfl (by k_is) rfl rfl rfl | fail "s_enter: the arguments"); (case kB => exact locs rfl); (case cK => first | exact rfl | assumption); (case c2 => exact rfl); (case c3 => exact rfl); (case c4 => exact rfl); (case c5 => decide); k_whole; intro zg' zL' zh' zFG' zF' zN' zB' zX' zT' zD'; (try dsimp only); (try k_fold))
  trivial
noncomputable def lwL3 : PySem.Expr := litOf (match lw3 with | .Assign _ l _ => l | _ => .Constant .none 0 default) (by conv => rhs; whnf)
noncomputable def lwE3 : PySem.Expr := litOf (match lwL3 with | .ListComp e _ _ _ => e | _ => .Constant .none 0 default) (by conv => rhs; whnf)
noncomputable def lwS3 : Scope := litOf (match lwL3 with | .ListComp _ _ sc _ => sc | _ => default) (by conv => rhs; whnf)
def kindN (x : Int) : Nat := (Int.fmod x 3).toNat
theorem kindN_eq (x : Int) : Int.fmod x 3 = ((kindN x : Nat) : Int) := by
  unfold kindN
  have h : 0 ≤ Int.fmod x 3 := Int.fmod_nonneg_of_pos _ (by omega)
  omega
theorem kindN_lt (x : Int) : kindN x < 3 := by
  unfold kindN
  have h : Int.fmod x 3 < 3 := Int.fmod_lt_of_pos _ (by omega)
  omega
theorem ints_getN {vs : List Value} {W : List Int} (h : IntsAre vs W) {i : Nat} {v : Value} (hv : vs[i]? = some v) : ∃ n t, W[i]? = some n ∧ v = .int n t := by
  induction h generalizing i with
  | nil => cases hv
  | cons y t r ih =>
    cases i with
    | zero => exact ⟨y, t, rfl, (Option.some.inj hv).symm⟩
    | succ i => exact ih hv
section
variable {w : World} {mean : ExcName → Option Value} {mg mb : Str → Option Value} {dp un : Nat} {gd : Option (List Code)} {outer : List Env} {A₀ : Around} {base h₀ : Heap} {L fa : Addr} {ccd : Value} {m : Str → Option Value} {s : Shared} {Q E : Value → Shared → Prop} {cl : List (Str × Addr)} {news : List (Addr × Obj)}
theorem kinds_src {S : Addr} {ws : List Value} {xs : List Int} {k : Nat} (hm : (S, ({ cls := .type "list", data := .seq ws.toArray k } : Obj)) ∈ news) (hv : IntsAre ws xs) (hz : xs.length ≤ 900)
    (B : Below A₀ base outer h₀) (F : Fr h₀ L s.heap m) (X : (K w.params).In h₀) (N : News h₀ L s.heap news) (T : Top q loose mean mg mb h₀) (hd : dp + 4 < recursionLimit) (hu : un + 40 < cLine)
    (hret : ∀ ys (D : Nat) h tk, IntsAre ys ((xs.map kindN).map fun c : Nat => (c : Int)) → (∀ p ∈ news, p.1 < D) → Fr h₀ L h m → News h₀ L h ((D, LCg.lst ys) :: news) → Q (.ref D) { s with heap := h, toks := tk }) :
    wpAny (model pw w) (ktrTop dp un gd "law" flaw_s L fa ccd cl outer) (pyIter (.ref S)) (SrcN pw w (ktrTop dp un gd "law" flaw_s L fa ccd cl outer) h₀ L m (envX "law" flaw_s L fa ccd cl) lwE3 "x" lwS3 [] Q) E s := by
  have zl : ws.length = xs.length := hv.length
  refine list_srcN rfl (by omega) F N hm (fun i ys => IntsAre ys (((xs.take i).map kindN).map fun c : Nat => (c : Int))) .nil ?_ ?_
  · intro i v I oI C oC D m₂ ys h tk E' hi hP hR hC hx F' N' off ne
    obtain ⟨c, t, hc, rfl⟩ := ints_getN hv hP
    have hnext : ∀ t', IntsAre (ys ++ [.int (Int.fmod c 3) t']) (((xs.take (i + 1)).map kindN).map fun c : Nat => (c : Int)) := by
      intro t'
      rw [kindN_eq, List.take_add_one, hc]
      simpa using ints_snocG (k := ((kindN c : Nat) : Int)) (t := t') hR
    unfold lwE3 lwS3
    k_steps
    all_goals first | exact hnext _ | k_asm
  · intro ys hR D h tk lt F' N'
    rw [zl, List.take_length] at hR
    exact hret ys D h tk hR lt F' N'
end
theorem kw52 : True := by
  k_with "eval ListComp" => (k_here; k_dflt (refine ListComp_N (F₀ := by k_asm) (by rfl) (by decide) (by rfl) (by decide) (by rfl) ?_))
  k_with "pyIter ref" => (k_here; k_dflt (refine' kinds_src ?rm ?rv ?rz ?rB ?rF ?rX ?rN ?rT ?rd ?ru ?_; (case rN => k_asm); (case rm => exact List.mem_cons_self); (case rv => with_reducible assumption); (case rz => (simp only [List.drop_succ_cons, List.drop_zero]; omega)); (case rB => k_asm); (case rF => k_asm); (case rX => k_asm); (case rT => k_asm); (case rd => ktr_room); (case ru => ktr_units); k_whole); intro zy9 zD9 zh9 ztk9 zhy9 zl9 zF9 zN9; (try k_lt zl9); (try dsimp only))
  trivial
section
variable {w : World} {mean : ExcName → Option Value} {mg mb : Str → Option Value} {dp un : Nat} {gd : Option (List Code)} {outer : List Env} {A₀ : Around} {base h₀ : Heap} {L fa : Addr} {ccd : Value} {m : Str → Option Value} {s : Shared} {Q : Flow → Shared → Prop} {E : Value → Shared → Prop} {o1 o2 o3 o4 o5 o6 o7 : Obj} {c1 c2 c3 c4 c5 c6 c7 : Nat}
theorem law_3 {D Z : Nat} {zs : List Value} {ds : List Int} {d0 : Int} {oZ : Obj} (hz : IntsAre zs (d0 :: ds)) (hn : ds.length ≤ 6) (d1 : o1.data = .cell (some (.ref D))) (d4 : o4.data = .cell none) (hc : c1 < c2 ∧ c2 < c3 ∧ c3 < c4 ∧ c4 < c5 ∧ c5 < c6 ∧ c6 < c7 ∧ c7 < D ∧ D < Z)
    (B : Below A₀ base outer h₀) (F : Fr h₀ L s.heap m) (X : (K w.params).In h₀) (N : News h₀ L s.heap [(Z, oZ), (D, W.listOf zs.toArray 0), (c7, o7), (c6, o6), (c5, o5), (c4, o4), (c3, o3), (c2, o2), (c1, o1)]) (T : Top q loose mean mg mb h₀)
    (hd : dp + 8 < recursionLimit) (hu : un + 100 < cLine)
    (hret : ∀ (Y : Nat) ys h' tk' o4', Z < Y → IntsAre ys ((ds.map kindN).map fun c : Nat => (c : Int)) → o4'.data = .cell (some (.ref Y)) → Fr h₀ L h' m → News h₀ L h' [(Y, LCg.lst ys), (Z, oZ), (D, W.listOf zs.toArray 0), (c7, o7), (c6, o6), (c5, o5), (c4, o4'), (c3, o3), (c2, o2), (c1, o1)] → Q .next { s with heap := h', toks := tk' }) :
    wpAny (model pw w) (ktrTop dp un gd "law" flaw_s L fa ccd (lawCl c1 c2 c3 c4 c5 c6 c7) outer) (exec lw3 (envX "law" flaw_s L fa ccd (lawCl c1 c2 c3 c4 c5 c6 c7))) Q E s := by
  obtain ⟨q0, q1, q2, q3, q4, q5, q6, q7⟩ := hc
  have s1 : c2 < c4 := Nat.lt_trans q1 q2
  have s0 : c1 < c4 := Nat.lt_trans q0 s1
  have s5 : c4 < c6 := Nat.lt_trans q3 q4
  have s6 : c4 < c7 := Nat.lt_trans s5 q5
  have s7 : c4 < D := Nat.lt_trans s6 q6
  have s8 : c4 < Z := Nat.lt_trans s7 q7
  clear q0 q1 q4 q5 q6 q7
  unfold lw3
  k_steps
  rename News h₀ L _ _ => N9
  rename Fr h₀ L _ _ => F9
  refine hret _ _ _ _ _ ?a ?b ?c F9 (newsDrop2 N9)
  case a => omega
  case b => assumption
  case c => assumption
end
end Mine
end
section
open Lean Meta Elab PySem PySem.W PyProof.Rows
set_option maxRecDepth 100000
set_option maxHeartbeats 0
set_option Elab.async false
set_option linter.unusedVariables false
namespace Mine
theorem fillBL : (fun (_ : Params → Frag) (_ : OpenLaw) => True) K rw1 := by k_fill; trivial
theorem kw53 : True := by
  k_with_none
  k_with "c_enter" => (refine' code_def ?k1 ?k2 ?k3 ?k4 ?k5 ?kA ?kF ?kK ?k6 ?k7 ?zk8 ?zk9 ?kB ?_ ?c2 ?c3 ?c4 ?c5; (case kA => exact rfl); (case kF => exact rfl); (case kK => assumption); (case k1 => k_asm); (case k2 => k_asm); (case k3 => k_asm); (case k4 => k_asm); (case k5 => k_asm); (case k6 => k_is); (case k7 => k_is); (case zk8 => ktr_room); (case zk9 => first | exact BindsTo.of_eq rfl | exact binds_K (by k_in) rfl (by k_is) rfl rfl rfl | fail "c_enter: the arguments"); (case c5 => decide); (case kB => exact locs rfl); (case c2 => exact rfl); (case c3 => exact rfl); (case c4 => exact rfl); k_whole; intro zg' zL' zh' zFG' zF' zN' zB' zX' zT'; (try dsimp only); (try k_fold))
  k_with "compareOp In str str" => (k_here; (first | with_reducible refine in_ch (by with_reducible assumption) ?_ | with_reducible refine in_nil ?_ | with_reducible refine in_b (b := false) (by decide +kernel) ?_ | with_reducible refine in_b (b := true) (by decide +kernel) ?_))
  k_with "compareOp NotIn str str" => (k_here; (first | with_reducible refine notin_ch (by with_reducible assumption) ?_ | with_reducible refine notin_nil ?_))
  k_with "compareOp Eq str str" => (k_here; (first | with_reducible refine eq_b (by with_reducible assumption) ?_ | with_reducible refine eq_b (b := false) (by decide +kernel) ?_ | with_reducible refine eq_b (b := true) (by decide +kernel) ?_))
  k_with "truthy str" => (k_here; (first | with_reducible refine truthy_ch ?_ | with_reducible refine truthy_nil ?_ | with_reducible refine truthy_p (by with_reducible assumption) (by with_reducible assumption) ?_); intro zk9)
  k_with "s_enter" => (refine' code_defS ?k1 ?k2 ?k3 ?k4 ?k5 ?XB ?TB ?D ?T0 ?kA ?k6 ?k7 ?zk8 ?zk9 ?kB ?_ ?cK ?c2 ?c3 ?c4 ?c5; (case kA => exact rfl); (case k2 => k_asm); (case k1 => k_asm); (case XB => exact Gd.x (by assumption)); (case TB => exact Gd.t (by assumption)); (case D => assumption); (case T0 => exact KtsTurn.refl); (case k3 => k_asm); (case k4 => k_asm); (case k5 => k_asm); (case k6 => k_is); (case k7 => k_is); (case zk8 => ktr_room); (case zk9 => first | exact BindsTo.of_eq rfl | exact binds_K (by k_in) rfl (by k_is) rfl rfl rfl | fail "s_enter: the arguments"); (case kB => exact locs rfl); (case cK => first | exact rfl | assumption); (case c2 => exact rfl); (case c3 => exact rfl); (case c4 => exact rfl); (case c5 => decide); k_whole; intro zg' zL' zh' zFG' zF' zN' zB' zX' zT' zD'; (try dsimp only); (try k_fold))
  trivial
def nmL (k : Nat) : List Nat := if k = 0 then [115, 105, 100, 101] else if k = 1 then [97, 98, 111, 117, 116] else [111, 118, 101, 114]
def spL (k how : Nat) : List Nat := match how with
  | 0 => nmL k
  | 1 => 39 :: nmL k ++ [39]
  | 2 => 34 :: nmL k ++ [34]
  | _ => (nmL k).take 1 ++ 39 :: (nmL k).drop 1 ++ [39]
def spX (y : Str) (how : Nat) : Str := match how with | 0 => y | 1 => Str.ofString "'" ++ y ++ Str.ofString "'" | 2 => Str.ofString "\"" ++ y ++ Str.ofString "\"" | _ => Txt.slice y none (some 1) ++ Str.ofString "'" ++ Txt.slice y (some 1) none ++ Str.ofString "'"
section
variable {w : World} {mean : ExcName → Option Value} {mg mb : Str → Option Value} {dp un : Nat} {gd : Option (List Code)} {cn : Str} {cs : Scope} {a : Addr} {ccd : Value} {cl : List (Str × Addr)} {outer : List Env} {A₀ : Around} {base h₀ : Heap} {L : Addr} {m : Str → Option Value} {news : List (Addr × Obj)} {s : Shared} {Q E : Value → Shared → Prop}
theorem kw54 : True := by
  trivial
theorem spelled_x {y : Str} {how : Nat} {t u : Tok} (hz : y.length ≤ 100) (hh : how < 4)
    (B : Below A₀ base outer h₀) (F : Fr h₀ L s.heap m) (X : (K w.params).In h₀) (N : News h₀ L s.heap news) (T : Top q loose mean mg mb h₀) (hkd : cs.kind = .function)
    (hd : dp + 2 < recursionLimit) (hu : un + 20 < cLine)
    (hret : ∀ x t h' tk', x = spX y how → Fr h₀ L h' m → News h₀ L h' news → Q (.str x t) { s with heap := h', toks := tk' }) :
    wpAny (model pw w) (ktrTop dp un gd cn cs L a ccd cl outer) (call (.ref 757) [.str y t, .int (how : Nat) u]) Q E s := by
  have hh4 : how = 0 ∨ how = 1 ∨ how = 2 ∨ how = 3 := by omega
  refine wpAny_call ?_
  rcases hh4 with rfl | rfl | rfl | rfl <;> (clear hh; k_dflt (walk_at "c_enter"); k_steps)
  all_goals exact hret _ _ _ _ rfl (by k_asm) (by k_asm)
theorem sp_eq {k how : Nat} (hk : k < 3) (hh : how < 4) : spX (nm k) how = ⟨(spL k how).toArray⟩ := by
  have hk3 : k = 0 ∨ k = 1 ∨ k = 2 := by omega
  have hh4 : how = 0 ∨ how = 1 ∨ how = 2 ∨ how = 3 := by omega
  rcases hk3 with rfl | rfl | rfl <;> rcases hh4 with rfl | rfl | rfl | rfl <;> decide +kernel
theorem nm_len {k : Nat} : (nm k).length ≤ 100 := by
  unfold nm
  split
  · decide +kernel
  · split <;> decide +kernel
theorem spelled_c {k how : Nat} {ki : Int} {t u : Tok} (ek : ki = (how : Nat)) (hk : k < 3) (hh : how < 4)
    (B : Below A₀ base outer h₀) (F : Fr h₀ L s.heap m) (X : (K w.params).In h₀) (N : News h₀ L s.heap news) (T : Top q loose mean mg mb h₀) (hkd : cs.kind = .function)
    (hd : dp + 2 < recursionLimit) (hu : un + 20 < cLine)
    (hret : ∀ t h' tk', Fr h₀ L h' m → News h₀ L h' news → Q (.str ⟨(spL k how).toArray⟩ t) { s with heap := h', toks := tk' }) :
    wpAny (model pw w) (ktrTop dp un gd cn cs L a ccd cl outer) (call (.ref 757) [.str (nm k) t, .int ki u]) Q E s := by
  subst ek
  refine spelled_x nm_len hh B F X N T hkd hd hu fun x t h' tk' e F' N' => ?_
  rw [e, sp_eq hk hh]
  exact hret t h' tk' F' N'
end
theorem item_list {prog : Program} {w : World} {A : Around} {E : Value → Shared → Prop} {s : Shared} {h₀ : Heap} {L : Addr} {news : List (Addr × Obj)} {value slice : PySem.Expr} {T : Addr} {its : Array Value} {n : Nat} {k : Int} {j : Nat} {u : Tok} {v : Value} {Q : Value → Shared → Prop} (N : News h₀ L s.heap ((T, W.listOf its n) :: news)) (ek : k = (j : Nat)) (hz : j ≤ 1000) (hx : its[j]? = some v) (h : Q v s)
    (hs : subscripted slice false (.ref T) (.int k u) = operate [.ref T, .int k u] (getItem (.ref T) (.int k u)) := by with_unfolding_all rfl) :
    wpAny (model prog w) A (subscriptTail value slice (.ref T) (.int k u)) Q E s := by
  have hl : s.heap.IsList T its := ⟨_, (N _ List.mem_cons_self).1, rfl, _, rfl⟩
  subst ek
  exact tail_any hl.typeIs slot_list_getitem.lookup (wpAny_getItem_list hl (by omega) (by omega) (by simpa using hx) h) hs
noncomputable def lwL4 : PySem.Expr := litOf (match lw4 with | .Assign _ (.Call _ (l :: _) _ _) _ => l | _ => .Constant .none 0 default) (by conv => rhs; whnf)
noncomputable def lwE4 : PySem.Expr := litOf (match lwL4 with | .ListComp e _ _ _ => e | _ => .Constant .none 0 default) (by conv => rhs; whnf)
noncomputable def lwS4 : Scope := litOf (match lwL4 with | .ListComp _ _ sc _ => sc | _ => default) (by conv => rhs; whnf)
def howN (x : Int) : Nat := (Int.fmod (Int.fdiv x 3) 4).toNat
def sepN (x : Int) : Nat := (Int.fmod (Int.fdiv x 12) 4).toNat
theorem fm4 (y : Int) : Int.fmod y 4 = (((Int.fmod y 4).toNat : Nat) : Int) ∧ (Int.fmod y 4).toNat < 4 := by
  have h : 0 ≤ Int.fmod y 4 := Int.fmod_nonneg_of_pos _ (by omega)
  have h2 : Int.fmod y 4 < 4 := Int.fmod_lt_of_pos _ (by omega)
  omega
def sepC (j : Nat) : Nat := if j = 0 then 32 else if j = 1 then 9 else if j = 2 then 13 else 10
def chunk (x : Int) : List Nat := spL (kindN x) (howN x) ++ [sepC (sepN x)]
theorem chunk_str (x : Int) : (⟨(spL (kindN x) (howN x)).toArray⟩ : Str) ++ ⟨#[sepC (sepN x)]⟩ = ⟨(chunk x).toArray⟩ := by
  show Str.mk _ = _
  simp [chunk]
theorem nm_item (a b c : Tok) {k : Nat} (hk : k < 3) : ∃ t, (#[Value.str (Str.ofString "side") a, Value.str (Str.ofString "about") b, Value.str (Str.ofString "over") c] : Array Value)[k]? = some (.str (nm k) t) := by
  have hk3 : k = 0 ∨ k = 1 ∨ k = 2 := by omega
  rcases hk3 with rfl | rfl | rfl
  · exact ⟨a, rfl⟩
  · exact ⟨b, rfl⟩
  · exact ⟨c, rfl⟩
theorem item_nm {prog : Program} {w : World} {A : Around} {E : Value → Shared → Prop} {s : Shared} {h₀ : Heap} {L : Addr} {news : List (Addr × Obj)} {value slice : PySem.Expr} {T : Addr} {n : Nat} {x : Int} {u t1 t2 t3 : Tok} {Q : Value → Shared → Prop} (N : News h₀ L s.heap ((T, W.listOf #[.str (Str.ofString "side") t1, .str (Str.ofString "about") t2, .str (Str.ofString "over") t3] n) :: news)) (h : ∀ t, Q (.str (nm (kindN x)) t) s)
    (hs : subscripted slice false (.ref T) (.int (Int.fmod x 3) u) = operate [.ref T, .int (Int.fmod x 3) u] (getItem (.ref T) (.int (Int.fmod x 3) u)) := by with_unfolding_all rfl) :
    wpAny (model prog w) A (subscriptTail value slice (.ref T) (.int (Int.fmod x 3) u)) Q E s := by
  obtain ⟨t, e⟩ := nm_item t1 t2 t3 (kindN_lt x)
  exact item_list N (kindN_eq x) (by have := kindN_lt x; omega) e (h t) hs
theorem sep_item (y : Int) : Txt.item (Str.ofString " \t\r\n") (Int.fmod y 4) = ⟨#[sepC (Int.fmod y 4).toNat]⟩ := by
  obtain ⟨e, lt⟩ := fm4 y
  rw [e]
  generalize (Int.fmod y 4).toNat = j at *
  have hj : j = 0 ∨ j = 1 ∨ j = 2 ∨ j = 3 := by omega
  rcases hj with rfl | rfl | rfl | rfl <;> decide +kernel
end Mine
end
section
open Lean Meta Elab PySem PySem.W PyProof.Rows
set_option maxRecDepth 100000
set_option maxHeartbeats 0
set_option Elab.async false
set_option linter.unusedVariables false
namespace Mine
theorem fillBM : (fun (_ : Params → Frag) (_ : OpenLaw) => True) K rw1 := by k_fill; trivial
theorem kw55 : True := by
  k_with_none
  k_with "c_enter" => (refine' code_def ?k1 ?k2 ?k3 ?k4 ?k5 ?kA ?kF ?kK ?k6 ?k7 ?zk8 ?zk9 ?kB ?_ ?c2 ?c3 ?c4 ?c5; (case kA => exact rfl); (case kF => exact rfl); (case kK => assumption); (case k1 => k_asm); (case k2 => k_asm); (case k3 => k_asm); (case k4 => k_asm); (case k5 => k_asm); (case k6 => k_is); (case k7 => k_is); (case zk8 => ktr_room); (case zk9 => first | exact BindsTo.of_eq rfl | exact binds_K (by k_in) rfl (by k_is) rfl rfl rfl | fail "c_enter: the arguments"); (case c5 => decide); (case kB => exact locs rfl); (case c2 => exact rfl); (case c3 => exact rfl); (case c4 => exact rfl); k_whole; intro zg' zL' zh' zFG' zF' zN' zB' zX' zT'; (try dsimp only); (try k_fold))
  k_with "compareOp In str str" => (k_here; (first | with_reducible refine in_ch (by with_reducible assumption) ?_ | with_reducible refine in_nil ?_ | with_reducible refine in_b (b := false) (by decide +kernel) ?_ | with_reducible refine in_b (b := true) (by decide +kernel) ?_))
  k_with "compareOp NotIn str str" => (k_here; (first | with_reducible refine notin_ch (by with_reducible assumption) ?_ | with_reducible refine notin_nil ?_))
  k_with "compareOp Eq str str" => (k_here; (first | with_reducible refine eq_b (by with_reducible assumption) ?_ | with_reducible refine eq_b (b := false) (by decide +kernel) ?_ | with_reducible refine eq_b (b := true) (by decide +kernel) ?_))
  k_with "truthy str" => (k_here; (first | with_reducible refine truthy_ch ?_ | with_reducible refine truthy_nil ?_ | with_reducible refine truthy_p (by with_reducible assumption) (by with_reducible assumption) ?_); intro zk9)
  k_with "s_enter" => (refine' code_defS ?k1 ?k2 ?k3 ?k4 ?k5 ?XB ?TB ?D ?T0 ?kA ?k6 ?k7 ?zk8 ?zk9 ?kB ?_ ?cK ?c2 ?c3 ?c4 ?c5; (case kA => exact rfl); (case k2 => k_asm); (case k1 => k_asm); (case XB => exact Gd.x (by assumption)); (case TB => exact Gd.t (by assumption)); (case D => assumption); (case T0 => exact KtsTurn.refl); (case k3 => k_asm); (case k4 => k_asm); (case k5 => k_asm); (case k6 => k_is); (case k7 => k_is); (case zk8 => ktr_room); (case zk9 => first | exact BindsTo.of_eq rfl | exact binds_K (by k_in) rfl (by k_is) rfl rfl rfl | fail "s_enter: the arguments"); (case kB => exact locs rfl); (case cK => first | exact rfl | assumption); (case c2 => exact rfl); (case c3 => exact rfl); (case c4 => exact rfl); (case c5 => decide); k_whole; intro zg' zL' zh' zFG' zF' zN' zB' zX' zT' zD'; (try dsimp only); (try k_fold))
  k_with "call ref" => (k_here; k_dflt (refine' spelled_c ?re ?rk ?rh ?rB ?rF ?rX ?rN ?rT ?rK ?rd ?ru ?_; (case re => assumption); (case rk => assumption); (case rh => assumption); (case rB => k_asm); (case rF => k_asm); (case rX => k_asm); (case rN => k_asm); (case rT => k_asm); (case rK => first | exact rfl | assumption); (case rd => ktr_room); (case ru => ktr_units); k_whole); intro zt9 zh9 ztk9 zF9 zN9; (try dsimp only))
  k_with "subscriptTail Name BinOp ref int" => (k_here; (with_unfolding_all refine' item_nm ?rN ?_ ?rs; (case rN => k_asm); (case rs => with_unfolding_all rfl); k_whole); intro zt9; (try dsimp only))
  trivial
theorem spL_len (k how : Nat) : (⟨(spL k how).toArray⟩ : Str).length ≤ 20 := by
  show (spL k how).toArray.size ≤ 20
  rw [List.size_toArray]
  have h1 : (nmL k).length ≤ 5 := by unfold nmL; split <;> (try split) <;> decide
  unfold spL
  split <;> simp <;> omega
section
variable {w : World} {mean : ExcName → Option Value} {mg mb : Str → Option Value} {dp un : Nat} {gd : Option (List Code)} {outer : List Env} {A₀ : Around} {base h₀ : Heap} {L fa : Addr} {ccd : Value} {m : Str → Option Value} {s : Shared} {Q E : Value → Shared → Prop} {cl : List (Str × Addr)} {news : List (Addr × Obj)}
theorem line_src {S : Addr} {ws : List Value} {xs : List Int} {k : Nat} (hm : (S, ({ cls := .type "list", data := .seq ws.toArray k } : Obj)) ∈ news) (hv : IntsAre ws xs) (hz : xs.length ≤ 900)
    (B : Below A₀ base outer h₀) (F : Fr h₀ L s.heap m) (X : (K w.params).In h₀) (N : News h₀ L s.heap news) (T : Top q loose mean mg mb h₀) (hd : dp + 4 < recursionLimit) (hu : un + 60 < cLine)
    (hret : ∀ ys (D : Nat) h tk, StrsAre ys (xs.map fun x => (⟨(chunk x).toArray⟩ : Str)) → (∀ p ∈ news, p.1 < D) → Fr h₀ L h m → News h₀ L h ((D, LCg.lst ys) :: news) → Q (.ref D) { s with heap := h, toks := tk }) :
    wpAny (model pw w) (ktrTop dp un gd "law" flaw_s L fa ccd cl outer) (pyIter (.ref S)) (SrcN pw w (ktrTop dp un gd "law" flaw_s L fa ccd cl outer) h₀ L m (envX "law" flaw_s L fa ccd cl) lwE4 "x" lwS4 [] Q) E s := by
  have zl : ws.length = xs.length := hv.length
  refine list_srcN rfl (by omega) F N hm (fun i ys => StrsAre ys ((xs.take i).map fun x => (⟨(chunk x).toArray⟩ : Str))) .nil ?_ ?_
  · intro i v I oI C oC D m₂ ys h tk E' hi hP hR hC hx F' N' off ne
    obtain ⟨c, t, hc, rfl⟩ := ints_getN hv hP
    have e1 : Int.fmod (Int.fdiv c 3) 4 = ((howN c : Nat) : Int) := (fm4 _).1
    have l1 : howN c < 4 := (fm4 _).2
    have l2 := kindN_lt c
    have l3 := spL_len (kindN c) (howN c)
    have hnext : ∀ t', StrsAre (ys ++ [.str ((⟨(spL (kindN c) (howN c)).toArray⟩ : Str) ++ Txt.item (Str.ofString " \t\r\n") (Int.fmod (Int.fdiv c 12) 4)) t']) ((xs.take (i + 1)).map fun x => (⟨(chunk x).toArray⟩ : Str)) := by
      intro t'
      rw [sep_item]
      have e9 := chunk_str c
      unfold sepN at e9
      rw [e9, List.take_add_one, hc]
      simpa using kct_snoc (y := (⟨(chunk c).toArray⟩ : Str)) (t := t') hR
    unfold lwE4 lwS4
    k_steps
    all_goals first | exact hnext _ | k_asm | exact news_tail (by k_asm)
  · intro ys hR D h tk lt F' N'
    rw [zl, List.take_length] at hR
    exact hret ys D h tk hR lt F' N'
end
end Mine
end
section
open Lean Meta Elab PySem PySem.W PyProof.Rows
set_option maxRecDepth 100000
set_option maxHeartbeats 0
set_option Elab.async false
set_option linter.unusedVariables false
namespace Mine
theorem fillBN : (fun (_ : Params → Frag) (_ : OpenLaw) => True) K rw1 := by k_fill; trivial
theorem kw56 : True := by
  k_with_none
  k_with "c_enter" => (refine' code_def ?k1 ?k2 ?k3 ?k4 ?k5 ?kA ?kF ?kK ?k6 ?k7 ?zk8 ?zk9 ?kB ?_ ?c2 ?c3 ?c4 ?c5; (case kA => exact rfl); (case kF => exact rfl); (case kK => assumption); (case k1 => k_asm); (case k2 => k_asm); (case k3 => k_asm); (case k4 => k_asm); (case k5 => k_asm); (case k6 => k_is); (case k7 => k_is); (case zk8 => ktr_room); (case zk9 => first | exact BindsTo.of_eq rfl | exact binds_K (by k_in) rfl (by k_is) rfl rfl rfl | fail "c_enter: the arguments"); (case c5 => decide); (case kB => exact locs rfl); (case c2 => exact rfl); (case c3 => exact rfl); (case c4 => exact rfl); k_whole; intro zg' zL' zh' zFG' zF' zN' zB' zX' zT'; (try dsimp only); (try k_fold))
  k_with "compareOp In str str" => (k_here; (first | with_reducible refine in_ch (by with_reducible assumption) ?_ | with_reducible refine in_nil ?_ | with_reducible refine in_b (b := false) (by decide +kernel) ?_ | with_reducible refine in_b (b := true) (by decide +kernel) ?_))
  k_with "compareOp NotIn str str" => (k_here; (first | with_reducible refine notin_ch (by with_reducible assumption) ?_ | with_reducible refine notin_nil ?_))
  k_with "compareOp Eq str str" => (k_here; (first | with_reducible refine eq_b (by with_reducible assumption) ?_ | with_reducible refine eq_b (b := false) (by decide +kernel) ?_ | with_reducible refine eq_b (b := true) (by decide +kernel) ?_))
  k_with "truthy str" => (k_here; (first | with_reducible refine truthy_ch ?_ | with_reducible refine truthy_nil ?_ | with_reducible refine truthy_p (by with_reducible assumption) (by with_reducible assumption) ?_); intro zk9)
  k_with "s_enter" => (refine' code_defS ?k1 ?k2 ?k3 ?k4 ?k5 ?XB ?TB ?D ?T0 ?kA ?k6 ?k7 ?zk8 ?zk9 ?kB ?_ ?cK ?c2 ?c3 ?c4 ?c5; (case kA => exact rfl); (case k2 => k_asm); (case k1 => k_asm); (case XB => exact Gd.x (by assumption)); (case TB => exact Gd.t (by assumption)); (case D => assumption); (case T0 => exact KtsTurn.refl); (case k3 => k_asm); (case k4 => k_asm); (case k5 => k_asm); (case k6 => k_is); (case k7 => k_is); (case zk8 => ktr_room); (case zk9 => first | exact BindsTo.of_eq rfl | exact binds_K (by k_in) rfl (by k_is) rfl rfl rfl | fail "s_enter: the arguments"); (case kB => exact locs rfl); (case cK => first | exact rfl | assumption); (case c2 => exact rfl); (case c3 => exact rfl); (case c4 => exact rfl); (case c5 => decide); k_whole; intro zg' zL' zh' zFG' zF' zN' zB' zX' zT' zD'; (try dsimp only); (try k_fold))
  trivial
def lineL (xs : List Int) : List Nat := xs.flatMap chunk
theorem join_lists : ∀ (l : List (List Nat)), Str.join (Str.ofString "") (l.map fun c => (⟨c.toArray⟩ : Str)) = ⟨l.flatten.toArray⟩
  | [] => by decide +kernel
  | [c] => by show (⟨c.toArray⟩ : Str) = _; simp
  | c :: d :: r => by
    have ih := join_lists (d :: r)
    show (⟨c.toArray⟩ : Str) ++ Str.ofString "" ++ Str.join (Str.ofString "") ((d :: r).map fun c => (⟨c.toArray⟩ : Str)) = _
    have e0 : (⟨c.toArray⟩ : Str) ++ ⟨([] : List Nat).toArray⟩ = ⟨c.toArray⟩ := by show Str.mk _ = _; simp
    rw [ih, ← nilE, e0]
    show Str.mk _ = _
    simp
theorem chunk_len (x : Int) : (chunk x).length ≤ 21 := by
  have := spL_len (kindN x) (howN x)
  have e : (⟨(spL (kindN x) (howN x)).toArray⟩ : Str).length = (spL (kindN x) (howN x)).length := by show (spL _ _).toArray.size = _; simp
  unfold chunk
  rw [List.length_append, List.length_singleton]
  omega
theorem lineL_len (xs : List Int) : (lineL xs).length ≤ xs.length * 21 := by
  induction xs with
  | nil => simp [lineL]
  | cons x r ih =>
    have := chunk_len x
    have e : lineL (x :: r) = chunk x ++ lineL r := rfl
    rw [e, List.length_append, List.length_cons, Nat.succ_mul]
    omega
theorem sum_chunks (xs : List Int) : ((xs.map fun x => (⟨(chunk x).toArray⟩ : Str)).map (·.length)).sum ≤ xs.length * 21 := by
  induction xs with
  | nil => simp
  | cons x r ih =>
    have := chunk_len x
    have e : (⟨(chunk x).toArray⟩ : Str).length = (chunk x).length := by show (chunk x).toArray.size = _; simp
    simp only [List.map_cons, List.sum_cons, List.length_cons, Nat.succ_mul] at *
    omega
theorem join_chunks {prog : Program} {w : World} {A : Around} {E : Value → Shared → Prop} {s : Shared} {h₀ : Heap} {L : Addr} {D : Addr} {ys : List Value} {xs : List Int} {t : Tok} {news : List (Addr × Obj)} {Q : Value → Shared → Prop}
    (N : News h₀ L s.heap ((D, LCg.lst ys) :: news)) (hs : StrsAre ys (xs.map fun x => (⟨(chunk x).toArray⟩ : Str))) (hn : xs.length ≤ 100)
    (h : ∀ t' k, Q (.str ⟨(lineL xs).toArray⟩ t') { s with toks := k }) : wpAny (model prog w) A (call (.builtin "str.join") [.str (Str.ofString "") t, .ref D]) Q E s := by
  have hl : s.heap.IsList D ys.toArray := ⟨_, (N _ List.mem_cons_self).1, rfl, _, rfl⟩
  have hw := sum_chunks xs
  refine join_listW hl (by simpa using hs) (by decide +kernel) (by rw [List.length_map]; omega) fun t' k => ?_
  have e : Txt.join (Str.ofString "") (xs.map fun x => (⟨(chunk x).toArray⟩ : Str)) = ⟨(lineL xs).toArray⟩ := by
    have e1 := join_lists (xs.map chunk)
    rw [List.map_map] at e1
    have e2 : (xs.map chunk).flatten = lineL xs := by simp [lineL, List.flatMap]
    rw [← e2, ← e1]
    exact StrLaws.glued_eq_join _ _
  rw [e]
  exact h t' k
theorem kw57 : True := by
  k_with "eval ListComp" => (k_here; k_dflt (refine ListComp_N (F₀ := by k_asm) (by rfl) (by decide) (by rfl) (by decide) (by rfl) ?_))
  k_with "pyIter ref" => (k_here; k_dflt (refine' line_src ?rm ?rv ?rz ?rB ?rF ?rX ?rN ?rT ?rd ?ru ?_; (case rN => k_asm); (case rm => exact List.mem_cons_self); (case rv => with_reducible assumption); (case rz => (simp only [List.drop_succ_cons, List.drop_zero]; omega)); (case rB => k_asm); (case rF => k_asm); (case rX => k_asm); (case rT => k_asm); (case rd => ktr_room); (case ru => ktr_units); k_whole); intro zy9 zD9 zh9 ztk9 zhy9 zl9 zF9 zN9; (try k_lt zl9); (try dsimp only))
  k_with "call builtin:str.join" => (k_here; k_dflt (refine' join_chunks ?rN ?rs ?rn ?_; (case rN => k_asm); (case rs => assumption); (case rn => (simp only [List.drop_succ_cons, List.drop_zero]; omega)); k_whole); intro zt9 zk9; (try dsimp only))
  trivial
section
variable {w : World} {mean : ExcName → Option Value} {mg mb : Str → Option Value} {dp un : Nat} {gd : Option (List Code)} {outer : List Env} {A₀ : Around} {base h₀ : Heap} {L fa : Addr} {ccd : Value} {m : Str → Option Value} {s : Shared} {Q : Flow → Shared → Prop} {E : Value → Shared → Prop} {o1 o2 o3 o4 o5 o6 o7 : Obj} {c1 c2 c3 c4 c5 c6 c7 : Nat}
theorem law_4 {D Z Y : Nat} {zs : List Value} {ds : List Int} {d0 : Int} {oZ oY : Obj} (hz : IntsAre zs (d0 :: ds)) (hn : ds.length ≤ 6) (d1 : o1.data = .cell (some (.ref D)))
    (B : Below A₀ base outer h₀) (F : Fr h₀ L s.heap m) (X : (K w.params).In h₀) (N : News h₀ L s.heap [(Y, oY), (Z, oZ), (D, W.listOf zs.toArray 0), (c7, o7), (c6, o6), (c5, o5), (c4, o4), (c3, o3), (c2, o2), (c1, o1)]) (T : Top q loose mean mg mb h₀)
    (hd : dp + 8 < recursionLimit) (hu : un + 100 < cLine)
    (hret : ∀ t h' tk', Fr h₀ L h' (fun y => if y = "line" then some (.str ⟨(lineL ds).toArray⟩ t) else m y) → News h₀ L h' [(Y, oY), (Z, oZ), (D, W.listOf zs.toArray 0), (c7, o7), (c6, o6), (c5, o5), (c4, o4), (c3, o3), (c2, o2), (c1, o1)] → Q .next { s with heap := h', toks := tk' }) :
    wpAny (model pw w) (ktrTop dp un gd "law" flaw_s L fa ccd (lawCl c1 c2 c3 c4 c5 c6 c7) outer) (exec lw4 (envX "law" flaw_s L fa ccd (lawCl c1 c2 c3 c4 c5 c6 c7))) Q E s := by
  unfold lw4
  k_steps
  rename News h₀ L _ _ => N9
  rename Fr h₀ L _ _ => F9
  exact hret _ _ _ F9 (news_tail (news_tail N9))
end
end Mine
end
section
open Lean Meta Elab PySem PySem.W PyProof.Rows
set_option maxRecDepth 100000
set_option maxHeartbeats 0
set_option Elab.async false
set_option linter.unusedVariables false
namespace Mine
theorem fillBO : (fun (_ : Params → Frag) (_ : OpenLaw) => True) K rw1 := by k_fill; trivial
theorem kw58 : True := by
  k_with_none
  k_with "c_enter" => (refine' code_def ?k1 ?k2 ?k3 ?k4 ?k5 ?kA ?kF ?kK ?k6 ?k7 ?zk8 ?zk9 ?kB ?_ ?c2 ?c3 ?c4 ?c5; (case kA => exact rfl); (case kF => exact rfl); (case kK => assumption); (case k1 => k_asm); (case k2 => k_asm); (case k3 => k_asm); (case k4 => k_asm); (case k5 => k_asm); (case k6 => k_is); (case k7 => k_is); (case zk8 => ktr_room); (case zk9 => first | exact BindsTo.of_eq rfl | exact binds_K (by k_in) rfl (by k_is) rfl rfl rfl | fail "c_enter: the arguments"); (case c5 => decide); (case kB => exact locs rfl); (case c2 => exact rfl); (case c3 => exact rfl); (case c4 => exact rfl); k_whole; intro zg' zL' zh' zFG' zF' zN' zB' zX' zT'; (try dsimp only); (try k_fold))
  k_with "compareOp In str str" => (k_here; (first | with_reducible refine in_ch (by with_reducible assumption) ?_ | with_reducible refine in_nil ?_ | with_reducible refine in_b (b := false) (by decide +kernel) ?_ | with_reducible refine in_b (b := true) (by decide +kernel) ?_))
  k_with "compareOp NotIn str str" => (k_here; (first | with_reducible refine notin_ch (by with_reducible assumption) ?_ | with_reducible refine notin_nil ?_))
  k_with "compareOp Eq str str" => (k_here; (first | with_reducible refine eq_b (by with_reducible assumption) ?_ | with_reducible refine eq_b (b := false) (by decide +kernel) ?_ | with_reducible refine eq_b (b := true) (by decide +kernel) ?_))
  k_with "truthy str" => (k_here; (first | with_reducible refine truthy_ch ?_ | with_reducible refine truthy_nil ?_ | with_reducible refine truthy_p (by with_reducible assumption) (by with_reducible assumption) ?_); intro zk9)
  k_with "s_enter" => (refine' code_defS ?k1 ?k2 ?k3 ?k4 ?k5 ?XB ?TB ?D ?T0 ?kA ?k6 ?k7 ?zk8 ?zk9 ?kB ?_ ?cK ?c2 ?c3 ?c4 ?c5; (case kA => exact rfl); (case k2 => k_asm); (case k1 => k_asm); (case XB => exact Gd.x (by assumption)); (case TB => exact Gd.t (by assumption)); (case D => assumption); (case T0 => exact KtsTurn.refl); (case k3 => k_asm); (case k4 => k_asm); (case k5 => k_asm); (case k6 => k_is); (case k7 => k_is); (case zk8 => ktr_room); (case zk9 => first | exact BindsTo.of_eq rfl | exact binds_K (by k_in) rfl (by k_is) rfl rfl rfl | fail "s_enter: the arguments"); (case kB => exact locs rfl); (case cK => first | exact rfl | assumption); (case c2 => exact rfl); (case c3 => exact rfl); (case c4 => exact rfl); (case c5 => decide); k_whole; intro zg' zL' zh' zFG' zF' zN' zB' zX' zT' zD'; (try dsimp only); (try k_fold))
  k_with "leaving ref" => (k_here; first
  | (refine' leave_newS ?k1 ?k0 ?k2 ?k3 ?_; (case k0 => assumption); (case k1 => assumption); (case k2 => assumption); (case k3 => k_asm); k_whole; intro zh' zR' zR2' zU'; (try dsimp only at zR' zR2' zU' ⊢))
  | (refine' leave_onSN ?k1 ?k2 ?k3 ?k4 ?_; (case k3 => assumption); (case k1 => assumption); (case k4 => assumption); (case k2 => assumption); k_whole; intro zh' zR' zR2' zU'; (try dsimp only at zR' zR2' zU' ⊢))
  | (refine' leave_raiseS ?k1 ?k0 ?k2 ?k3 ?_; (case k0 => assumption); (case k1 => assumption); (case k2 => assumption); (case k3 => k_asm); k_whole; intro zh' zt' zR' zR2' zU'; (try dsimp only at zR' zR2' zU' ⊢)))
  k_with "call type:list" => (k_here; k_dflt (refine' list0_c ?rB ?rF ?rX ?rN ?re ?rT ?rK ?l1 ?l2 ?l3 ?l4 ?l5 ?l6 ?rb ?rz ?rd ?ru ?_ ?_; (case rB => k_asm); (case rF => k_asm); (case rX => k_asm);  (case rN => k_asm); (case re => exact rfl); (case rT => k_asm); (case rK => first | exact rfl | assumption); (case l1 => assumption); (case l2 => assumption); (case l3 => assumption); (case l4 => assumption); (case l5 => assumption); (case l6 => assumption); (case rb => assumption); (case rz => assumption); (case rd => ktr_room); (case ru => ktr_units); k_whole); (all_goals first | refine fun (zws9 : List (List Nat)) ze9 zS9 zvs9 zc9 zg9 zh9 ztk9 zhv9 zT9 zB9 zF9 zN9 => ?_ | refine fun ze9 zg9 zh9 zx9 ztk9 zF9 zU9 zR9 => ?_))
  k_with "call ref" => (k_here; k_dflt (refine' mklex_c ?rB ?rF ?rX ?rN ?rT ?rK ?rd ?ru ?_; (case rB => k_asm); (case rF => k_asm); (case rX => k_asm);  (case rN => k_asm); (case rT => k_asm); (case rK => first | exact rfl | assumption); (case rd => ktr_room); (case ru => ktr_units); k_whole); intro zio9 zdio9 zpb9 zfs9 zlex9 zdlex9 σ9 τ9 zu9 zts9 ztl9 ztt9 zh9 ztk9 l10 l11 l12 l13 l14 l15 zF9 zN9; (try k_lt l15); (try dsimp only))
  trivial
section
variable {w : World} {mean : ExcName → Option Value} {mg mb : Str → Option Value} {dp un : Nat} {gd : Option (List Code)} {outer : List Env} {A₀ : Around} {base h₀ : Heap} {L : Addr} {m : Str → Option Value} {news : List (Addr × Obj)} {s : Shared} {Q : Flow → Shared → Prop} {E : Value → Shared → Prop} {x : Str} {t : Tok}
theorem split_b {ws : List (List Nat)} (hr : reads x.cps.toList = some ws)
    (B : Below A₀ base outer h₀) (F : Fr h₀ L s.heap (fun y => if y = "posix" then some (.bool true) else if y = "comments" then some (.bool false) else if y = "s" then some (.str x t) else none)) (X : (K w.params).In h₀) (N : News h₀ L s.heap news) (T : Top q loose mean mg mb h₀)
    (G : Gd w.params mean mg mb base) (D : KtsDicts (outer.filterMap (·.frame)) h₀)
    (hbs : ∀ c ∈ x.cps.toList, (Str.ofString "\\").cps.toList.contains c = false) (hsz : x.length ≤ 1000)
    (hd : dp + 10 < recursionLimit) (hu : un + 120 < cLine)
    (hret : ∀ S vs c' h₀' h' tk' m', StrsAre vs (txts ws) → KtsTurn (outer.filterMap (·.frame)) h₀ h₀' → Fr h₀' L h' m' → News h₀' L h' ((S, lst vs c') :: news) → Q (.ret (.ref S)) { s with heap := h', toks := tk' }) :
    wpAny (model pw w) (ktrTop dp un gd "split" fsplit_s L 750 (.ref 749) [] outer) (execs fsplit_b (envOf "split" fsplit_s L 750 (.ref 749))) Q E s := by
  unfold fsplit_b
  k_steps
  · rename reads _ = some _ => e8
    rw [hr] at e8
    cases e8
    rename News _ L _ _ => N9
    rename Fr _ L _ _ => F9
    exact hret _ _ _ _ _ _ _ (by assumption) (by assumption) F9 N9
  · rename reads _ = none => e8
    rw [hr] at e8
    cases e8
end
section
variable {w : World} {mean : ExcName → Option Value} {mg mb : Str → Option Value} {dp un : Nat} {gd : Option (List Code)} {A₀ : Around} {base h₀ : Heap} {L fa : Addr} {ccd : Value} {cl : List (Str × Addr)} {m : Str → Option Value} {news : List (Addr × Obj)} {s : Shared} {Q E : Value → Shared → Prop}
theorem split0_c {x : Str} {t : Tok} {ws : List (List Nat)} (hr : reads x.cps.toList = some ws)
    (B : Below A₀ base [] h₀) (F : Fr h₀ L s.heap m) (X : (K w.params).In h₀) (N : News h₀ L s.heap news) (T : Top q loose mean mg mb h₀)
    (G : Gd w.params mean mg mb base) (hbs : ∀ c ∈ x.cps.toList, (Str.ofString "\\").cps.toList.contains c = false) (hsz : x.length ≤ 1000)
    (hd : dp + 14 < recursionLimit) (hu : un + 140 < cLine)
    (hret : ∀ (S : Nat) vs c' h' tk', StrsAre vs (txts ws) → Fr h₀ L h' m → News h₀ L h' ((S, W.listOf vs.toArray c') :: news) → Q (.ref S) { s with heap := h', toks := tk' }) :
    wpAny (model pw w) (ktrTop dp un gd "law" flaw_s L fa ccd cl []) (call (.ref 750) [.str x t]) Q E s := by
  refine wpAny_call ?_
  have X' := X.keeps F.keep
  obtain ⟨oL, es, ep, hL, hLd, hLk, hLf⟩ := F.ns
  refine codeAny_call_def (binds := [("s", .str x t), ("comments", .bool false), ("posix", .bool true)]) (by show dp < _; omega) (X' 750 _ (by k_is)) rfl (T.nolimit.keeps F.keep) (codeRec_of X' (by k_is)) rfl ?hb ?hcell ?hloc ?hh ?hco ?hgen ?hk
  case hb => first | exact BindsTo.of_eq rfl | exact binds_K X' rfl (by k_is) rfl rfl rfl
  case hcell => decide
  case hloc => exact locs rfl
  case hco => rfl
  case hgen => rfl
  case hk => rfl
  intro h₁ hns hk₁
  rw [look3] at hns
  have B' := pushX (env := envX "law" flaw_s L fa ccd cl) B F rfl rfl
  have nL : h₀.get? L = none := kts_self F
  refine wpAny_mono (split_b (dp := dp + 1) (un := un + 3) (gd := gd) (outer := [envX "law" flaw_s L fa ccd cl]) (base := base) (h₀ := s.heap) (L := s.heap.objs.size) (news := []) (Q := fun f s' => ∃ v, f = .ret v ∧ Q v s') (E := fun _ _ => False) hr B' ⟨hns, hk₁, Nat.le_refl _⟩ X' News.nil (T.keeps F.keep) G ?D hbs hsz (by omega) (by omega) ?ret) (fun f s' hq => ?fin) fun _ _ h => False.elim h
  case D =>
    intro b hb
    have hb' : b ∈ [L] := hb
    rw [List.mem_singleton.mp hb']
    exact ⟨oL, es, ep, hL, hLd⟩
  case fin =>
    obtain ⟨v, rfl, hq⟩ := hq
    exact hq
  intro S vs c' h₀' h' tk' m' hv T' F' N'
  refine ⟨_, rfl, ?_⟩
  have old : ∀ b o, s.heap.get? b = some o → b ≠ L → h'.get? b = some o := fun b o e hb => F'.keep _ _ (T'.other b o e fun hm => by
    have hm' : b ∈ [L] := hm
    exact hb (List.mem_singleton.mp hm'))
  obtain ⟨sl, hs⟩ := T'.up hL
  have zS := N' _ List.mem_cons_self
  have hSL : @Ne Nat S L := fun e => by
    have e' : S = L := e
    have z := zS.2.2
    rw [e', hs] at z
    cases z
  have hS0 : h₀.get? S = none := by
    cases e : h₀.get? S with
    | none => rfl
    | some o =>
      have z := zS.2.2
      rw [T'.other _ _ (F.keep _ _ e) fun hm => by
        have hm' : S ∈ [L] := hm
        exact hSL (List.mem_singleton.mp hm')] at z
      cases z
  refine hret S vs c' h' tk' hv ⟨⟨_, es, ep, F'.keep _ _ hs, hLd, hLk, hLf⟩, fun b o e => old b o (F.keep b o e) (fun q => by rw [q, nL] at e; cases e), F.above⟩ fun p hp => ?_
  rcases List.mem_cons.mp hp with rfl | hp
  · exact ⟨zS.1, hSL, hS0⟩
  · exact ⟨old _ _ (N p hp).1 (N p hp).2.1, (N p hp).2⟩
end
end Mine
end
section
open Lean Meta Elab PySem PySem.W PyProof.Rows
set_option maxRecDepth 100000
set_option maxHeartbeats 0
set_option Elab.async false
set_option linter.unusedVariables false
namespace Mine
theorem fillBP : (fun (_ : Params → Frag) (_ : OpenLaw) => True) K rw1 := by k_fill; trivial
theorem kw59 : True := by
  k_with_none
  k_with "c_enter" => (refine' code_def ?k1 ?k2 ?k3 ?k4 ?k5 ?kA ?kF ?kK ?k6 ?k7 ?zk8 ?zk9 ?kB ?_ ?c2 ?c3 ?c4 ?c5; (case kA => exact rfl); (case kF => exact rfl); (case kK => assumption); (case k1 => k_asm); (case k2 => k_asm); (case k3 => k_asm); (case k4 => k_asm); (case k5 => k_asm); (case k6 => k_is); (case k7 => k_is); (case zk8 => ktr_room); (case zk9 => first | exact BindsTo.of_eq rfl | exact binds_K (by k_in) rfl (by k_is) rfl rfl rfl | fail "c_enter: the arguments"); (case c5 => decide); (case kB => exact locs rfl); (case c2 => exact rfl); (case c3 => exact rfl); (case c4 => exact rfl); k_whole; intro zg' zL' zh' zFG' zF' zN' zB' zX' zT'; (try dsimp only); (try k_fold))
  k_with "compareOp In str str" => (k_here; (first | with_reducible refine in_ch (by with_reducible assumption) ?_ | with_reducible refine in_nil ?_ | with_reducible refine in_b (b := false) (by decide +kernel) ?_ | with_reducible refine in_b (b := true) (by decide +kernel) ?_))
  k_with "compareOp NotIn str str" => (k_here; (first | with_reducible refine notin_ch (by with_reducible assumption) ?_ | with_reducible refine notin_nil ?_))
  k_with "compareOp Eq str str" => (k_here; (first | with_reducible refine eq_b (by with_reducible assumption) ?_ | with_reducible refine eq_b (b := false) (by decide +kernel) ?_ | with_reducible refine eq_b (b := true) (by decide +kernel) ?_))
  k_with "truthy str" => (k_here; (first | with_reducible refine truthy_ch ?_ | with_reducible refine truthy_nil ?_ | with_reducible refine truthy_p (by with_reducible assumption) (by with_reducible assumption) ?_); intro zk9)
  k_with "s_enter" => (refine' code_defS ?k1 ?k2 ?k3 ?k4 ?k5 ?XB ?TB ?D ?T0 ?kA ?k6 ?k7 ?zk8 ?zk9 ?kB ?_ ?cK ?c2 ?c3 ?c4 ?c5; (case kA => exact rfl); (case k2 => k_asm); (case k1 => k_asm); (case XB => exact Gd.x (by assumption)); (case TB => exact Gd.t (by assumption)); (case D => assumption); (case T0 => exact KtsTurn.refl); (case k3 => k_asm); (case k4 => k_asm); (case k5 => k_asm); (case k6 => k_is); (case k7 => k_is); (case zk8 => ktr_room); (case zk9 => first | exact BindsTo.of_eq rfl | exact binds_K (by k_in) rfl (by k_is) rfl rfl rfl | fail "s_enter: the arguments"); (case kB => exact locs rfl); (case cK => first | exact rfl | assumption); (case c2 => exact rfl); (case c3 => exact rfl); (case c4 => exact rfl); (case c5 => decide); k_whole; intro zg' zL' zh' zFG' zF' zN' zB' zX' zT' zD'; (try dsimp only); (try k_fold))
  k_with "call ref" => (k_here; k_dflt (refine' split0_c ?rr ?rB ?rF ?rX ?rN ?rT ?rG ?rb ?rz ?rd ?ru ?_; (case rN => k_asm); (case rr => assumption); (case rB => k_asm); (case rF => k_asm); (case rX => k_asm); (case rT => k_asm); (case rG => assumption); (case rb => assumption); (case rz => assumption); (case rd => ktr_room); (case ru => ktr_units); k_whole); intro zS9 zv9 zc9 zh9 ztk9 zhv9 zF9 zN9; (try dsimp only))
  trivial
section
variable {w : World} {mean : ExcName → Option Value} {mg mb : Str → Option Value} {dp un : Nat} {gd : Option (List Code)} {A₀ : Around} {base h₀ : Heap} {L fa : Addr} {ccd : Value} {m : Str → Option Value} {s : Shared} {Q : Flow → Shared → Prop} {E : Value → Shared → Prop} {o1 o2 o3 o4 o5 o6 o7 : Obj} {c1 c2 c3 c4 c5 c6 c7 : Nat}
theorem law_5 {Z Y : Nat} {p : Pic} {ks : List Nat} {x : Str} {ws : List (List Nat)} {oY : Obj} {t t1 t2 t3 : Tok} (hks : ∀ k ∈ ks, k < 3) (ok : Ok p) (hr : reads x.cps.toList = some ws) (hws : txts ws = ks.map nm)
    (hbs : ∀ c ∈ x.cps.toList, (Str.ofString "\\").cps.toList.contains c = false) (hsz : x.length ≤ 1000)
    (d2 : o2.data = .cell (some (.ref Z))) (d3 : o3.data = .cell (some (.bytes (bytesOf p.l) t3)))
    (B : Below A₀ base [] h₀) (F : Fr h₀ L s.heap (fun y => if y = "line" then some (.str x t) else m y)) (X : (K w.params).In h₀) (N : News h₀ L s.heap [(Y, oY), (Z, W.listOf #[.int (p.ht : Nat) t1, .int (p.wd : Nat) t2] 0), (c7, o7), (c6, o6), (c5, o5), (c4, o4), (c3, o3), (c2, o2), (c1, o1)]) (T : Top q loose mean mg mb h₀)
    (G : Gd w.params mean mg mb base) (hd : dp + 20 < recursionLimit) (hu : un + 200 < cLine)
    (hret : ∀ (P : Nat) t1' t2' h' tk', Y < P → Fr h₀ L h' (fun y => if y = "told" then some (.ref P) else if y = "line" then some (.str x t) else m y) → News h₀ L h' [(P, pic (deeds p ks).l (deeds p ks).wd t1' t2'), (Y, oY), (Z, W.listOf #[.int (p.ht : Nat) t1, .int (p.wd : Nat) t2] 0), (c7, o7), (c6, o6), (c5, o5), (c4, o4), (c3, o3), (c2, o2), (c1, o1)] → Q .next { s with heap := h', toks := tk' }) :
    wpG (model pw w) (ktrTop dp un gd "law" flaw_s L fa ccd (lawCl c1 c2 c3 c4 c5 c6 c7) []) (exec lw5 (envX "law" flaw_s L fa ccd (lawCl c1 c2 c3 c4 c5 c6 c7))) Q E s := by
  show wpG _ _ (exec (.Assign [.Name "told" _] (.Call (.Name "reduce" _) _ [] _) _) _) _ _ _
  refine wpG_Assign_Name (wpG_Call ?_)
  k_steps
  refine wpG_callWith_K (K := K w.params) (by k_is) (wpG.of ?_)
  k_steps
  rename News h₀ L _ _ => N9
  rename Fr h₀ L _ _ => F9
  rename _ < _ ∧ _ => l9
  rename StrsAre _ _ => hv
  rw [hws] at hv
  have zP := N9 _ List.mem_cons_self
  have zS := N9 _ (List.mem_cons_of_mem _ List.mem_cons_self)
  refine reduce_c (p := p) hks ok zP.1 ⟨_, zS.1, rfl, _, rfl⟩ hv B F9 X T rfl (by omega) (by omega) fun P' t1' t2' h' tk' kp gP oP => ?_
  have hL : P' ≠ L := by
    rcases oP with e | lt
    · rw [e]; exact zP.2.1
    · exact Nat.ne_of_gt (Nat.lt_of_lt_of_le F9.ns.lt lt)
  have h0 : h₀.get? P' = none := by
    rcases oP with e | lt
    · rw [e]; exact zP.2.2
    · exact Heap.get?_none_of_le (Nat.le_trans F9.above (Nat.le_of_lt (Nat.lt_of_lt_of_le F9.ns.lt lt)))
  have lY : @LT.lt Nat _ Y P' := by
    rcases oP with e | lt
    · rw [e]; omega
    · exact Nat.lt_of_lt_of_le (Heap.lt_size (N9 (Y, oY) (by simp)).1) lt
  have F' := F9.keeps kp
  have N' := N9.grown kp
  refine wpAny_storeName_local (by rfl) F'.ns (fun h'' hn hs => ?_) (by rfl)
  refine hret P' t1' t2' _ _ lY (F'.set hn hs) fun q hq => ?_
  rcases List.mem_cons.mp hq with rfl | hq
  · exact ⟨hs.extBut _ _ hL gP, hL, h0⟩
  · exact (N'.set hs) q (List.mem_cons_of_mem _ (List.mem_cons_of_mem _ hq))
end
end Mine
end
section
open Lean Meta Elab PySem PySem.W PyProof.Rows PySem.Calls
set_option maxRecDepth 100000
set_option maxHeartbeats 0
set_option Elab.async false
set_option linter.unusedVariables false
namespace Mine
section
variable {prog : Program} {w : World} {A : Around} {E : Value → Shared → Prop} {s : Shared} {h₀ : Heap} {L : Addr} {m : Str → Option Value} {env : Env} {scope : Scope} {cl : List (Str × Addr)}
/-- a comprehension over a range with one test whose element is the int itself -/
theorem ListComp_filter {x : Str} {px : Pos} {ra tst elt : PySem.Expr} {pos : Pos} {n : Nat} {p : Nat → Bool} {Q : Value → Shared → Prop} {news : List (Addr × Obj)}
    (hh : A.handled = none) (hclos : closureFor scope env = pure cl) (hcell : ∀ y ∈ scope.names, y.2 ≠ .cell) (hkind : scope.kind = .function) (hnames : ∀ y ∈ scope.names, y.2 = .local → scope.names.lookup y.1 = some .local)
    (hx : scope.names.lookup x = some .local) (hn : n ≤ 1000)
    (hra : wpAny (model prog w) A (eval ra env) (RangeIs h₀ L m news (n : Int) 1 s) E s)
    (htst : ∀ (i : Nat) (C : Nat) (oC : Obj) m₂ h tk rest t (E' : Value → Shared → Prop), i < n → LCg.NsObj oC m₂ → m₂ x = some (.int (i : Nat) t) → Fr h₀ L h m → News h₀ L h ((C, oC) :: (news ++ rest)) →
      wpAny (model prog w) A (isTrue tst (compEnvC scope cl C env) (eval tst (compEnvC scope cl C env))) (fun b s' => b = p i ∧ ∃ h' tk', s' = { s with heap := h', toks := tk' } ∧ Fr h₀ L h' m ∧ News h₀ L h' ((C, oC) :: (news ++ rest))) E' { s with heap := h, toks := tk })
    (helt : ∀ (i : Nat) (C : Nat) (oC : Obj) m₂ h tk rest t (E' : Value → Shared → Prop), i < n → LCg.NsObj oC m₂ → m₂ x = some (.int (i : Nat) t) → Fr h₀ L h m → News h₀ L h ((C, oC) :: (news ++ rest)) →
      wpAny (model prog w) A (eval elt (compEnvC scope cl C env)) (fun v s' => ∃ t h' tk', v = .int (i : Nat) t ∧ s' = { s with heap := h', toks := tk' } ∧ Fr h₀ L h' m ∧ News h₀ L h' ((C, oC) :: (news ++ rest))) E' { s with heap := h, toks := tk })
    (hf0 : ∀ x, foldedSetIterable ra env x = pure x)
    (fin : ∀ (D : Nat) h tk ys, IntsAre ys (((List.range n).filter p).map fun k : Nat => (k : Int)) → (∀ p ∈ news, p.1 < D) → Fr h₀ L h m → News h₀ L h ((D, LCg.lst ys) :: news) → Q (.ref D) { s with heap := h, toks := tk }) :
    wpAny (model prog w) A (eval (.ListComp elt [⟨.Name x px, ra, [tst], 0⟩] scope pos) env) Q E s := by
  rw [eval_ListComp]
  refine wpAny_comprehension_free (use := none) rfl hf0 hclos hkind hnames (wpAny_mono hra (fun xv s₁ h₁ => ?_) fun _ _ e => e)
  obtain ⟨r, t1, u1, v1, g, tk, rfl, rfl, hr, F₁, N₁⟩ := h₁
  refine rng_itN (by omega) hr F₁ N₁ fun I g hI F₂ N₂ off hL h0 => ?_
  refine wpAny_newObj_type (wpAny_newFunctionEnv hcell (by intro y hy; simp at hy) (fun h₁ hns₁ hsb₁ => ?_) hkind)
  dsimp only at hns₁ hsb₁ ⊢
  generalize hH2 : g.push { cls := .type "list", dict := none, data := .seq ([] : List Value).toArray } = H2 at hns₁ hsb₁ ⊢
  have hC : H2.objs.size = g.objs.size + 1 := by rw [← hH2, Heap.size_push]
  have hDC : g.objs.size ≠ H2.objs.size := by rw [hC]; exact Nat.ne_of_lt (Nat.lt_succ_self _)
  have hlt : ∀ b o, g.get? b = some o → b ≠ H2.objs.size ∧ b ≠ g.objs.size := fun b o e => by
    have := Heap.lt_size e
    rw [hC]
    exact ⟨Nat.ne_of_lt (Nat.lt_succ_of_lt this), Nat.ne_of_lt this⟩
  have old : ∀ b o, g.get? b = some o → h₁.get? b = some o := fun b o e => hsb₁.extBut b o (hlt b o e).1 (Heap.get?_push_of_some _ (hH2 ▸ Heap.get?_push_of_some _ e))
  have hacc : h₁.get? g.objs.size = some (LCg.lst []) := hsb₁.extBut _ _ hDC (Heap.get?_push_of_some _ (hH2 ▸ Heap.get?_push_size _ rfl))
  obtain ⟨oC, heC, hoC⟩ := LCg.ns_obj hns₁
  obtain ⟨oL, heL⟩ : ∃ o, g.get? L = some o := by obtain ⟨o, _, _, e, _⟩ := F₂.ns; exact ⟨o, e⟩
  have fresh₀ : ∀ a, g.objs.size ≤ a → h₀.get? a = none := fun a ha => by
    cases e : h₀.get? a with
    | none => rfl
    | some o' => exact absurd (Heap.lt_size (F₂.keep a o' e)) (Nat.not_lt.mpr ha)
  have hC₀ := fresh₀ H2.objs.size (by rw [hC]; exact Nat.le_succ _)
  have hD₀ := fresh₀ g.objs.size (Nat.le_refl _)
  have hLn := hlt L oL heL
  have hIn := hlt I _ hI
  have offD : ∀ p ∈ news, p.1 ≠ g.objs.size := fun p hp => (hlt _ _ (N₂ p hp).1).2
  have offC : ∀ (o' : Obj), ∀ p ∈ (g.objs.size, o') :: news, p.1 ≠ H2.objs.size := fun o' p hp => by
    rcases List.mem_cons.mp hp with rfl | hp
    · exact hDC
    · exact (hlt _ _ (N₂ p hp).1).1
  have N₃ : News h₀ L h₁ ((H2.objs.size, oC) :: (g.objs.size, LCg.lst []) :: news) := fun p hp => by
    simp only [List.mem_cons] at hp
    rcases hp with rfl | rfl | hp
    · exact ⟨heC, Ne.symm hLn.1, hC₀⟩
    · exact ⟨hacc, Ne.symm hLn.2, hD₀⟩
    · exact ⟨old _ _ (N₂ _ hp).1, (N₂ _ hp).2⟩
  have offI : ∀ (o o' : Obj), ∀ p ∈ (H2.objs.size, o) :: (g.objs.size, o') :: news, p.1 ≠ I := fun o o' p hp => by
    simp only [List.mem_cons] at hp
    rcases hp with rfl | rfl | hp
    · exact Ne.symm hIn.1
    · exact Ne.symm hIn.2
    · exact off _ hp
  have W := LCg.range_walks (prog := prog) (w := w) (A := A) (I := I) hh 0 n
  have loop : ∀ s₃ : Shared, s₃ = ({ s with heap := h₁, toks := tk + ([] : List (Str × Value)).length } : Shared) →
      codeAny (model prog w) A (.compLoop (.ListComp elt [⟨.Name x px, ra, [tst], 0⟩] scope pos) 0 (.ref I) (.ref g.objs.size) (compEnvC scope cl H2.objs.size env)) (compPost (model prog w) A E none Q (.ref g.objs.size) H2.objs.size) s₃ := by
    rintro s₃ rfl
    refine codeAny_compLoop_tests (fun k s' => ∃ i h' tk' oC' m' ys', s' = { s with heap := h', toks := tk' } ∧ i ≤ n ∧ k = n + 1 - i ∧ h'.get? I = some (riO n i) ∧ LCg.NsObj oC' m' ∧ IntsAre ys' (((List.range i).filter p).map fun k : Nat => (k : Int)) ∧ ys'.length ≤ i ∧ Fr h₀ L h' m ∧ News h₀ L h' ((H2.objs.size, oC') :: (g.objs.size, LCg.lst ys') :: news))
      ?_ (n + 1) ⟨0, h₁, _, oC, _, [], rfl, by omega, rfl, old _ _ hI, hoC, .nil, Nat.le_refl _, F₂.keeps old, N₃⟩ (by intro _; rfl)
    rintro k s' ⟨i, h', tk', oC', m', ys', rfl, hi, rfl, hI', hC', hys', hyl, F', N'⟩
    by_cases hlt : i < n
    · refine W.item i _ _ _ hlt hI' fun v h₂ tk₂ hPv hst₂ hk₂ => ?_
      obtain ⟨t, rfl⟩ := hPv
      have hI₂ : h₂.get? I = some (riO n (i + 1)) := hst₂
      refine set_nm (I := I) hx hkind hC' F' N' hk₂ hI₂ (offI _ _) hL h0 (offC _) fun oC₃ h₃ tk₃ hC₃ F₃ N₃ hI₃ => ?_
      have e : (0 : Int) + (i : Int) = ((i : Nat) : Int) := by omega
      have Nin : News h₀ L h₃ ((H2.objs.size, oC₃) :: (news ++ [(g.objs.size, LCg.lst ys'), (I, riO n (i + 1))])) := by
        intro p hp
        simp only [List.mem_cons, List.mem_append, List.not_mem_nil, or_false] at hp
        rcases hp with rfl | hp | rfl | rfl
        · exact N₃ _ (by simp)
        · exact N₃ _ (by simp [hp])
        · exact N₃ _ (by simp)
        · exact ⟨hI₃, Ne.symm hL, h0⟩
      refine wpAny_tests_one ?_
      refine wpAny_mono (htst i H2.objs.size oC₃ _ h₃ tk₃ _ t _ hlt hC₃ ((if_pos rfl).trans (by rw [e])) F₃ Nin) (fun b s₄ hq => ?_) fun _ _ e => e
      obtain ⟨rfl, h₄, tk₄, rfl, F₄, N₄⟩ := hq
      have back : ∀ {hx : Heap} {ysx : List Value} {p0 : News h₀ L hx ((H2.objs.size, oC₃) :: (news ++ [(g.objs.size, LCg.lst ysx), (I, riO n (i + 1))]))}, News h₀ L hx ((H2.objs.size, oC₃) :: (g.objs.size, LCg.lst ysx) :: news) := fun {hx ysx p0} => newsSub p0 (by
        intro p hp
        simp only [List.mem_cons, List.mem_append, List.not_mem_nil, or_false] at hp ⊢
        rcases hp with h | h | h <;> simp [h])
      cases hb : p i with
      | false =>
        simp only [Bool.false_eq_true, if_false]
        refine ⟨n + 1 - (i + 1), by omega, i + 1, h₄, tk₄, oC₃, _, ys', rfl, hlt, rfl, (N₄ (I, riO n (i + 1)) (by simp)).1, hC₃, ?_, by omega, F₄, back (p0 := N₄)⟩
        rw [List.range_succ, List.filter_append]
        simpa [hb] using hys'
      | true =>
        simp only [if_true]
        refine wpAny_mono (helt i H2.objs.size oC₃ _ h₄ tk₄ _ t _ hlt hC₃ ((if_pos rfl).trans (by rw [e])) F₄ N₄) (fun v s₅ hq => ?_) fun _ _ e => e
        obtain ⟨t5, h₅, tk₅, rfl, rfl, F₅, N₅⟩ := hq
        have zD := N₅ (g.objs.size, LCg.lst ys') (by simp)
        have zI := (N₅ (I, riO n (i + 1)) (by simp)).1
        have zC := N₅ (H2.objs.size, oC₃) (by simp)
        refine append_at (hsz := by show ys'.toArray.size ≤ sizeLine; rw [List.size_toArray, sizeLine_eq]; omega) zD.1 fun h₆ hs₆ hD₆ => ?_
        refine ⟨n + 1 - (i + 1), by omega, i + 1, h₆, tk₅, oC₃, _, ys' ++ [.int (i : Nat) t5], rfl, hlt, rfl, hs₆.extBut _ _ hIn.2 zI, hC₃, ?_, by simp; omega, F₅.change hs₆ zD.2.1 zD.2.2, fun q hq => ?_⟩
        · rw [List.range_succ, List.filter_append]
          simpa [hb] using ints_snocG (k := (i : Int)) (t := t5) hys'
        · simp only [List.mem_cons] at hq
          rcases hq with rfl | rfl | hq
          · exact ⟨hs₆.extBut _ _ (Ne.symm hDC) zC.1, zC.2⟩
          · exact ⟨hD₆.trans (congrArg some (LCg.lst_snoc ys' (.int (i : Nat) t5))), zD.2⟩
          · have z := N₅ q (by simp [hq])
            exact ⟨hs₆.extBut _ _ (offD q hq) z.1, z.2⟩
    · obtain rfl : i = n := by omega
      refine W.done _ _ _ hI' fun h₂ tk₂ hk₂ => ?_
      have F₄ := LCg.fr_but F' hk₂ hL h0
      have N₄ := LCg.news_but N' hk₂ (offI _ _)
      refine ⟨m', hC'.ns (N₄ _ List.mem_cons_self).1, fun h₅ hs₅ => fin g.objs.size h₅ tk₂ ys' hys' (fun p hp => Heap.lt_size (N₂ p hp).1) (F₄.change hs₅ (Ne.symm hLn.1) hC₀) (fun p hp => ?_)⟩
      have z := N₄ p (List.mem_cons_of_mem _ hp)
      refine ⟨hs₅.extBut _ _ ?_ z.1, z.2⟩
      rcases List.mem_cons.mp hp with rfl | hp
      · exact hDC
      · exact (offC (LCg.lst []) p (List.mem_cons_of_mem _ hp))
  exact codeAny_compStart_list (loop _ rfl) (W.self 0 _ _ _ (old _ _ hI) (loop _ rfl))
end
end Mine
end
section
open Lean Meta Elab PySem PySem.W PyProof.Rows PySem.Calls
set_option maxRecDepth 100000
set_option maxHeartbeats 0
set_option Elab.async false
set_option linter.unusedVariables false
namespace Mine
section
variable {prog : Program} {w : World} {A : Around} {E : Value → Shared → Prop} {s : Shared} {h₀ : Heap} {L : Addr} {m : Str → Option Value} {env : Env} {scope : Scope} {cl : List (Str × Addr)}
/-- a comprehension over a range whose name is captured by an inner one: it lives in a cell -/
theorem ListComp_cell {x : Str} {px : Pos} {ra elt : PySem.Expr} {pos : Pos} {n : Nat} {f : Nat → Int} {Q : Value → Shared → Prop} {news : List (Addr × Obj)}
    (hh : A.handled = none) (hclos : closureFor scope env = pure cl) (hkind : scope.kind = .function) (hnames : ∀ y ∈ scope.names, y.2 = .local → scope.names.lookup y.1 = some .local)
    (hnew : newFunctionEnv scope env.globals cl [] env.qual none .none (some env) = (alloc { cls := .type "dict", data := .dict #[] } >>= fun C => alloc { cls := .type "cell", data := .cell none } >>= fun c => pure ({ scope := scope, locals := C, globals := env.globals, cells := (x, c) :: cl, qual := env.qual, func := none, code := env.code, frame := env.frame, builtins := env.builtins } : Env)))
    (hkx : ∀ (C c : Nat), (compEnvC scope ((x, c) :: cl) C env).kindOf x = some .cell) (hn : n ≤ 1000)
    (hra : wpAny (model prog w) A (eval ra env) (RangeIs h₀ L m news (n : Int) 1 s) E s)
    (helt : ∀ (i : Nat) (C c : Nat) (oC oc : Obj) h tk rest t (E' : Value → Shared → Prop), i < n → LCg.NsObj oC (fun _ => none) → oc.data = .cell (some (.int (i : Nat) t)) → (∀ p ∈ news, p.1 < c) → Fr h₀ L h m → News h₀ L h ((C, oC) :: (c, oc) :: (news ++ rest)) →
      wpAny (model prog w) A (eval elt (compEnvC scope ((x, c) :: cl) C env)) (fun v s' => ∃ t h' tk', v = .int (f i) t ∧ s' = { s with heap := h', toks := tk' } ∧ Fr h₀ L h' m ∧ News h₀ L h' ((C, oC) :: (c, oc) :: (news ++ rest))) E' { s with heap := h, toks := tk })
    (hf0 : ∀ x, foldedSetIterable ra env x = pure x)
    (fin : ∀ (D : Nat) h tk ys, IntsAre ys ((List.range n).map f) → (∀ p ∈ news, p.1 < D) → Fr h₀ L h m → News h₀ L h ((D, LCg.lst ys) :: news) → Q (.ref D) { s with heap := h, toks := tk }) :
    wpAny (model prog w) A (eval (.ListComp elt [⟨.Name x px, ra, [], 0⟩] scope pos) env) Q E s := by
  rw [eval_ListComp]
  refine wpAny_comprehension_free (use := none) rfl hf0 hclos hkind hnames (wpAny_mono hra (fun xv s₁ h₁ => ?_) fun _ _ e => e)
  obtain ⟨r, t1, u1, v1, g, tk, rfl, rfl, hr, F₁, N₁⟩ := h₁
  refine rng_itN (by omega) hr F₁ N₁ fun I g hI F₂ N₂ off hL h0 => ?_
  rw [hnew]
  refine wpAny_newObj_type (wpAny_bind (wpAny_alloc (wpAny_bind (wpAny_alloc (wpAny_pure ?_)))))
  dsimp only
  generalize hH2 : g.push { cls := .type "list", dict := none, data := .seq ([] : List Value).toArray } = H2
  have hC : H2.objs.size = g.objs.size + 1 := by rw [← hH2, Heap.size_push]
  generalize hH3 : H2.push { cls := .type "dict", data := .dict #[] } = H3
  have hc : H3.objs.size = g.objs.size + 1 + 1 := by rw [← hH3, Heap.size_push, hC]
  generalize hH4 : H3.push { cls := .type "cell", data := .cell none } = H4
  have old : ∀ b o, g.get? b = some o → H4.get? b = some o := fun b o e => by
    rw [← hH4]
    refine Heap.get?_push_of_some _ ?_
    rw [← hH3]
    refine Heap.get?_push_of_some _ ?_
    rw [← hH2]
    exact Heap.get?_push_of_some _ e
  have hacc : H4.get? g.objs.size = some (LCg.lst []) := by
    rw [← hH4]
    refine Heap.get?_push_of_some _ ?_
    rw [← hH3]
    refine Heap.get?_push_of_some _ ?_
    rw [← hH2]
    exact Heap.get?_push_size _ rfl
  have heC : H4.get? H2.objs.size = some { cls := .type "dict", data := .dict #[] } := by
    rw [← hH4]
    refine Heap.get?_push_of_some _ ?_
    rw [← hH3]
    exact Heap.get?_push_size _ rfl
  have hec : H4.get? H3.objs.size = some { cls := .type "cell", data := .cell none } := by
    rw [← hH4]
    exact Heap.get?_push_size _ rfl
  have hoC : LCg.NsObj { cls := .type "dict", data := .dict #[] } (fun _ => none) := by
    obtain ⟨o, e, q⟩ := LCg.ns_obj (Heap.Ns.new H2 (.type "dict"))
    rw [Heap.get?_push_size _ rfl] at e
    cases e
    exact q
  have hlt : ∀ b o, g.get? b = some o → (@Ne Nat b H2.objs.size) ∧ (@Ne Nat b g.objs.size) ∧ (@Ne Nat b H3.objs.size) := fun b o e => by
    have q : @LT.lt Nat _ b g.objs.size := Heap.lt_size e
    rw [hC, hc]
    refine ⟨?_, ?_, ?_⟩ <;> omega
  have hDC : @Ne Nat g.objs.size H2.objs.size := by rw [hC]; omega
  have hDc : @Ne Nat g.objs.size H3.objs.size := by rw [hc]; omega
  have hCc : @Ne Nat H2.objs.size H3.objs.size := by rw [hC, hc]; omega
  obtain ⟨oL, heL⟩ : ∃ o, g.get? L = some o := by obtain ⟨o, _, _, e, _⟩ := F₂.ns; exact ⟨o, e⟩
  have fresh₀ : ∀ a, g.objs.size ≤ a → h₀.get? a = none := fun a ha => by
    cases e : h₀.get? a with
    | none => rfl
    | some o' => exact absurd (Heap.lt_size (F₂.keep a o' e)) (Nat.not_lt.mpr ha)
  have hC₀ := fresh₀ H2.objs.size (by rw [hC]; exact Nat.le_succ _)
  have hc₀ := fresh₀ H3.objs.size (by rw [hc]; exact Nat.le_succ_of_le (Nat.le_succ _))
  have hD₀ := fresh₀ g.objs.size (Nat.le_refl _)
  have hLn := hlt L oL heL
  have hIn := hlt I _ hI
  have offD : ∀ p ∈ news, p.1 ≠ g.objs.size := fun p hp => (hlt _ _ (N₂ p hp).1).2.1
  have offc : ∀ p ∈ news, p.1 ≠ H3.objs.size := fun p hp => (hlt _ _ (N₂ p hp).1).2.2
  have ltc : ∀ p ∈ news, p.1 < H3.objs.size := fun p hp => by
    have q : @LT.lt Nat _ p.1 g.objs.size := Heap.lt_size (N₂ p hp).1
    show @LT.lt Nat _ p.1 _
    omega
  have N₃ : News h₀ L H4 ((H2.objs.size, { cls := .type "dict", data := .dict #[] }) :: (H3.objs.size, { cls := .type "cell", data := .cell none }) :: (g.objs.size, LCg.lst []) :: news) := fun p hp => by
    simp only [List.mem_cons] at hp
    rcases hp with rfl | rfl | rfl | hp
    · exact ⟨heC, Ne.symm hLn.1, hC₀⟩
    · exact ⟨hec, Ne.symm hLn.2.2, hc₀⟩
    · exact ⟨hacc, Ne.symm hLn.2.1, hD₀⟩
    · exact ⟨old _ _ (N₂ _ hp).1, (N₂ _ hp).2⟩
  have offI : ∀ (o o' o'' : Obj), ∀ p ∈ (H2.objs.size, o) :: (H3.objs.size, o') :: (g.objs.size, o'') :: news, p.1 ≠ I := fun o o' o'' p hp => by
    simp only [List.mem_cons] at hp
    rcases hp with rfl | rfl | rfl | hp
    · exact Ne.symm hIn.1
    · exact Ne.symm hIn.2.2
    · exact Ne.symm hIn.2.1
    · exact off _ hp
  have W := LCg.range_walks (prog := prog) (w := w) (A := A) (I := I) hh 0 n
  have loop : ∀ s₃ : Shared, s₃ = ({ s with heap := H4, toks := tk } : Shared) →
      codeAny (model prog w) A (.compLoop (.ListComp elt [⟨.Name x px, ra, [], 0⟩] scope pos) 0 (.ref I) (.ref g.objs.size) (compEnvC scope ((x, H3.objs.size) :: cl) H2.objs.size env)) (compPost (model prog w) A E none Q (.ref g.objs.size) H2.objs.size) s₃ := by
    rintro s₃ rfl
    refine codeAny_compLoop_list (fun k s' => ∃ i h' tk' oC' oc' v ys', s' = { s with heap := h', toks := tk' } ∧ i ≤ n ∧ k = n + 1 - i ∧ h'.get? I = some (riO n i) ∧ LCg.NsObj oC' (fun _ => none) ∧ oc'.data = .cell v ∧ IntsAre ys' ((List.range i).map f) ∧ Fr h₀ L h' m ∧ News h₀ L h' ((H2.objs.size, oC') :: (H3.objs.size, oc') :: (g.objs.size, LCg.lst ys') :: news))
      ?_ (n + 1) ⟨0, H4, _, _, _, none, [], rfl, by omega, rfl, old _ _ hI, hoC, rfl, .nil, F₂.keeps old, N₃⟩ (by intro _; rfl)
    rintro k s' ⟨i, h', tk', oC', oc', v0, ys', rfl, hi, rfl, hI', hC', hc', hys', F', N'⟩
    by_cases hin : i < n
    · refine W.item i _ _ _ hin hI' fun v h₂ tk₂ hPv hst₂ hk₂ => ?_
      obtain ⟨t, rfl⟩ := hPv
      have hI₂ : h₂.get? I = some (riO n (i + 1)) := hst₂
      have F₃ := LCg.fr_but F' hk₂ hL h0
      have N₃ := LCg.news_but N' hk₂ (offI _ _ _)
      have zc := N₃ (H3.objs.size, oc') (by simp)
      have zC := N₃ (H2.objs.size, oC') (by simp)
      have zD := N₃ (g.objs.size, LCg.lst ys') (by simp)
      refine wpAny_assign_Name (wpAny_storeName_cell (c := H3.objs.size) (v₀ := v0) (by simp [compEnvC, relabel, hkind]) (hkx _ _) (by simp [compEnvC]) ⟨oc', zc.1, hc'⟩ fun h₃ hv₃ hs₃ => ?_)
      obtain ⟨oc₃, ec₃, dc₃⟩ := hv₃
      have e : (0 : Int) + (i : Int) = ((i : Nat) : Int) := by omega
      rw [e] at dc₃
      have F₄ : Fr h₀ L h₃ m := F₃.change hs₃ zc.2.1 zc.2.2
      have Nin : News h₀ L h₃ ((H2.objs.size, oC') :: (H3.objs.size, oc₃) :: (news ++ [(g.objs.size, LCg.lst ys'), (I, riO n (i + 1))])) := by
        intro p hp
        simp only [List.mem_cons, List.mem_append, List.not_mem_nil, or_false] at hp
        rcases hp with rfl | rfl | hp | rfl | rfl
        · exact ⟨hs₃.extBut _ _ hCc zC.1, zC.2⟩
        · exact ⟨ec₃, zc.2⟩
        · have z := N₃ p (by simp [hp])
          exact ⟨hs₃.extBut _ _ (offc p hp) z.1, z.2⟩
        · exact ⟨hs₃.extBut _ _ hDc zD.1, zD.2⟩
        · exact ⟨hs₃.extBut _ _ hIn.2.2 hI₂, Ne.symm hL, h0⟩
      refine wpAny_mono (helt i H2.objs.size H3.objs.size oC' oc₃ h₃ _ _ t _ hin hC' dc₃ ltc F₄ Nin) (fun v s₅ hq => ?_) fun _ _ e => e
      obtain ⟨t5, h₅, tk₅, rfl, rfl, F₅, N₅⟩ := hq
      have yD := N₅ (g.objs.size, LCg.lst ys') (by simp)
      have yI := (N₅ (I, riO n (i + 1)) (by simp)).1
      have yC := N₅ (H2.objs.size, oC') (by simp)
      have yc := N₅ (H3.objs.size, oc₃) (by simp)
      have hyl : ys'.length = i := by have := hys'.length; simpa using this
      refine append_at (hsz := by show ys'.toArray.size ≤ sizeLine; rw [List.size_toArray, sizeLine_eq]; omega) yD.1 fun h₆ hs₆ hD₆ => ?_
      refine ⟨n + 1 - (i + 1), by omega, i + 1, h₆, tk₅, oC', oc₃, _, ys' ++ [.int (f i) t5], rfl, hin, rfl, hs₆.extBut _ _ hIn.2.1 yI, hC', dc₃, ?_, F₅.change hs₆ yD.2.1 yD.2.2, fun q hq => ?_⟩
      · rw [List.range_succ, List.map_append]
        exact ints_snocG hys'
      · simp only [List.mem_cons] at hq
        rcases hq with rfl | rfl | rfl | hq
        · exact ⟨hs₆.extBut _ _ (Ne.symm hDC) yC.1, yC.2⟩
        · exact ⟨hs₆.extBut _ _ (Ne.symm hDc) yc.1, yc.2⟩
        · exact ⟨hD₆.trans (congrArg some (LCg.lst_snoc ys' (.int (f i) t5))), yD.2⟩
        · have z := N₅ q (by simp [hq])
          exact ⟨hs₆.extBut _ _ (offD q hq) z.1, z.2⟩
    · obtain rfl : i = n := by omega
      refine W.done _ _ _ hI' fun h₂ tk₂ hk₂ => ?_
      have F₄ := LCg.fr_but F' hk₂ hL h0
      have N₄ := LCg.news_but N' hk₂ (offI _ _ _)
      refine ⟨_, hC'.ns (N₄ _ List.mem_cons_self).1, fun h₅ hs₅ => fin g.objs.size h₅ tk₂ ys' hys' (fun p hp => Heap.lt_size (N₂ p hp).1) (F₄.change hs₅ (Ne.symm hLn.1) hC₀) (fun p hp => ?_)⟩
      have z := N₄ p (by rcases List.mem_cons.mp hp with h | h <;> simp [h])
      refine ⟨hs₅.extBut _ _ ?_ z.1, z.2⟩
      rcases List.mem_cons.mp hp with rfl | hp
      · exact hDC
      · exact (hlt _ _ (N₂ p hp).1).1
  exact codeAny_compStart_list (loop _ rfl) (W.self 0 _ _ _ (old _ _ hI) (loop _ rfl))
end
end Mine
end
section
open Lean Meta Elab PySem PySem.W PyProof.Rows
set_option maxRecDepth 100000
set_option maxHeartbeats 0
set_option Elab.async false
set_option linter.unusedVariables false
namespace Mine
theorem fillBQ : (fun (_ : Params → Frag) (_ : OpenLaw) => True) K rw1 := by k_fill; trivial
theorem kw60 : True := by
  k_with_none
  k_with "c_enter" => (refine' code_def ?k1 ?k2 ?k3 ?k4 ?k5 ?kA ?kF ?kK ?k6 ?k7 ?zk8 ?zk9 ?kB ?_ ?c2 ?c3 ?c4 ?c5; (case kA => exact rfl); (case kF => exact rfl); (case kK => assumption); (case k1 => k_asm); (case k2 => k_asm); (case k3 => k_asm); (case k4 => k_asm); (case k5 => k_asm); (case k6 => k_is); (case k7 => k_is); (case zk8 => ktr_room); (case zk9 => first | exact BindsTo.of_eq rfl | exact binds_K (by k_in) rfl (by k_is) rfl rfl rfl | fail "c_enter: the arguments"); (case c5 => decide); (case kB => exact locs rfl); (case c2 => exact rfl); (case c3 => exact rfl); (case c4 => exact rfl); k_whole; intro zg' zL' zh' zFG' zF' zN' zB' zX' zT'; (try dsimp only); (try k_fold))
  k_with "compareOp In str str" => (k_here; (first | with_reducible refine in_ch (by with_reducible assumption) ?_ | with_reducible refine in_nil ?_ | with_reducible refine in_b (b := false) (by decide +kernel) ?_ | with_reducible refine in_b (b := true) (by decide +kernel) ?_))
  k_with "compareOp NotIn str str" => (k_here; (first | with_reducible refine notin_ch (by with_reducible assumption) ?_ | with_reducible refine notin_nil ?_))
  k_with "compareOp Eq str str" => (k_here; (first | with_reducible refine eq_b (by with_reducible assumption) ?_ | with_reducible refine eq_b (b := false) (by decide +kernel) ?_ | with_reducible refine eq_b (b := true) (by decide +kernel) ?_))
  k_with "truthy str" => (k_here; (first | with_reducible refine truthy_ch ?_ | with_reducible refine truthy_nil ?_ | with_reducible refine truthy_p (by with_reducible assumption) (by with_reducible assumption) ?_); intro zk9)
  k_with "s_enter" => (refine' code_defS ?k1 ?k2 ?k3 ?k4 ?k5 ?XB ?TB ?D ?T0 ?kA ?k6 ?k7 ?zk8 ?zk9 ?kB ?_ ?cK ?c2 ?c3 ?c4 ?c5; (case kA => exact rfl); (case k2 => k_asm); (case k1 => k_asm); (case XB => exact Gd.x (by assumption)); (case TB => exact Gd.t (by assumption)); (case D => assumption); (case T0 => exact KtsTurn.refl); (case k3 => k_asm); (case k4 => k_asm); (case k5 => k_asm); (case k6 => k_is); (case k7 => k_is); (case zk8 => ktr_room); (case zk9 => first | exact BindsTo.of_eq rfl | exact binds_K (by k_in) rfl (by k_is) rfl rfl rfl | fail "s_enter: the arguments"); (case kB => exact locs rfl); (case cK => first | exact rfl | assumption); (case c2 => exact rfl); (case c3 => exact rfl); (case c4 => exact rfl); (case c5 => decide); k_whole; intro zg' zL' zh' zFG' zF' zN' zB' zX' zT' zD'; (try dsimp only); (try k_fold))
  trivial
noncomputable def lwL6 : PySem.Expr := litOf (match lw6 with | .Assign _ l _ => l | _ => .Constant .none 0 default) (by conv => rhs; whnf)
noncomputable def lwE6 : PySem.Expr := litOf (match lwL6 with | .ListComp e _ _ _ => e | _ => .Constant .none 0 default) (by conv => rhs; whnf)
noncomputable def lwS6 : Scope := litOf (match lwL6 with | .ListComp _ _ sc _ => sc | _ => default) (by conv => rhs; whnf)
noncomputable def lwR6 : PySem.Expr := litOf (match lwL6 with | .ListComp _ (g :: _) _ _ => g.iter | _ => .Constant .none 0 default) (by conv => rhs; whnf)
noncomputable def lwA6 : Pos := litOf (match lwL6 with | .ListComp _ (⟨.Name _ p, _, _, _⟩ :: _) _ _ => p | _ => default) (by conv => rhs; whnf)
noncomputable def lwQ6 : Pos := litOf (match lwL6 with | .ListComp _ _ _ p => p | _ => default) (by conv => rhs; whnf)
theorem lwL6_eq : lwL6 = .ListComp lwE6 [⟨.Name "odd" lwA6, lwR6, [], 0⟩] lwS6 lwQ6 := by with_unfolding_all rfl
noncomputable def lwI6 : PySem.Expr := litOf (match lwE6 with | .BinOp (.Call _ (l :: _) _ _) _ _ _ => l | _ => .Constant .none 0 default) (by conv => rhs; whnf)
noncomputable def liE : PySem.Expr := litOf (match lwI6 with | .ListComp e _ _ _ => e | _ => .Constant .none 0 default) (by conv => rhs; whnf)
noncomputable def liS : Scope := litOf (match lwI6 with | .ListComp _ _ sc _ => sc | _ => default) (by conv => rhs; whnf)
noncomputable def liR : PySem.Expr := litOf (match lwI6 with | .ListComp _ (g :: _) _ _ => g.iter | _ => .Constant .none 0 default) (by conv => rhs; whnf)
noncomputable def liT : PySem.Expr := litOf (match lwI6 with | .ListComp _ (⟨_, _, t :: _, _⟩ :: _) _ _ => t | _ => .Constant .none 0 default) (by conv => rhs; whnf)
noncomputable def liA : Pos := litOf (match lwI6 with | .ListComp _ (⟨.Name _ p, _, _, _⟩ :: _) _ _ => p | _ => default) (by conv => rhs; whnf)
noncomputable def liQ : Pos := litOf (match lwI6 with | .ListComp _ _ _ p => p | _ => default) (by conv => rhs; whnf)
theorem lwI6_eq : lwI6 = .ListComp liE [⟨.Name "k" liA, liR, [liT], 0⟩] liS liQ := by with_unfolding_all rfl
noncomputable abbrev envO (c4 co : Nat) (Co : Nat) (env : Env) : Env := compEnvC lwS6 [("odd", co), ("kinds", c4)] Co env
def cnt2 (l : List Nat) : Nat := l.count 2
def flipP (ks : List Nat) (odd k : Nat) : Bool := ks.getD k 0 == 1 || (ks.getD k 0 == 0 && (ks.take k).count 2 % 2 == odd)
theorem getD_cast (ks : List Nat) (k : Nat) : (ks.map fun k : Nat => (k : Int)).getD (k : Int).toNat 0 = ((ks.getD k 0 : Nat) : Int) := by
  rw [Int.toNat_natCast, List.getD_eq_getElem?_getD, List.getD_eq_getElem?_getD, List.getElem?_map]
  cases ks[k]? <;> rfl
theorem count_cast (ks : List Nat) (k : Nat) : List.count (2 : Int) (List.take (k : Int).toNat (ks.map fun k : Nat => (k : Int))) = (ks.take k).count 2 := by
  rw [Int.toNat_natCast, ← List.map_take]
  generalize ks.take k = l
  induction l with
  | nil => rfl
  | cons x r ih =>
    rw [List.map_cons, List.count_cons, List.count_cons, ih]
    congr 1
    by_cases h : x = 2
    · simp [h]
    · have h2 : ¬ ((x : Int) = 2) := by omega
      simp [h, h2]
theorem fmod2_cast (c : Nat) : Int.fmod (c : Int) 2 = ((c % 2 : Nat) : Int) := by
  rw [Int.fmod_eq_emod_of_nonneg _ (by omega)]
  omega
theorem flip_end {ks : List Nat} {k odd : Nat} {b : Bool} (h1 : b = true ↔ (((ks.map fun k : Nat => (k : Int)).getD (k : Int).toNat 0 = 1) ∨ ((ks.map fun k : Nat => (k : Int)).getD (k : Int).toNat 0 = 0 ∧ Int.fmod ((List.count (2 : Int) (List.take (k : Int).toNat (ks.map fun k : Nat => (k : Int))) : Nat) : Int) 2 = (odd : Int)))) : b = flipP ks odd k := by
  rw [getD_cast, count_cast, fmod2_cast] at h1
  unfold flipP
  rw [Bool.eq_iff_iff, h1]
  simp only [Bool.or_eq_true, Bool.and_eq_true, beq_iff_eq]
  omega
abbrev liCl (c4 co : Nat) : List (Str × Addr) := [("odd", co), ("kinds", c4)]
section
variable {w : World} {mean : ExcName → Option Value} {mg mb : Str → Option Value} {dp un : Nat} {gd : Option (List Code)} {outer : List Env} {A₀ : Around} {base h₀ : Heap} {L fa : Addr} {ccd : Value} {m : Str → Option Value} {s : Shared} {Q E : Value → Shared → Prop} {o1 o2 o3 o4 o5 o6 o7 oC oc oi : Obj} {c1 c2 c3 c4 c5 c6 c7 C Co co : Nat} {m₂ : Str → Option Value} {rest : List (Addr × Obj)}
theorem flip_t {P Z Y k odd : Nat} {ys : List Value} {ks : List Nat} {oP oZ : Obj} {t t2 : Tok} (hk : k < ks.length) (hn : ks.length ≤ 6) (ho : odd < 2) (hy : IntsAre ys (ks.map fun k : Nat => (k : Int)))
    (d4 : o4.data = .cell (some (.ref Y))) (dc : oc.data = .cell (some (.int (odd : Nat) t2))) (hC : LCg.NsObj oi m₂) (mk : m₂ "k" = some (.int (k : Nat) t))
    (B : Below A₀ base outer h₀) (F : Fr h₀ L s.heap m) (X : (K w.params).In h₀) (N : News h₀ L s.heap ((C, oi) :: (Co, oC) :: (co, oc) :: (P, oP) :: (Y, LCg.lst ys) :: (Z, oZ) :: (c7, o7) :: (c6, o6) :: (c5, o5) :: (c4, o4) :: (c3, o3) :: (c2, o2) :: (c1, o1) :: rest)) (T : Top q loose mean mg mb h₀)
    (hd : dp + 8 < recursionLimit) (hu : un + 100 < cLine) :
    wpAny (model pw w) (ktrTop dp un gd "law" flaw_s L fa ccd (lawCl c1 c2 c3 c4 c5 c6 c7) outer) (isTrue liT (compEnvC liS (liCl c4 co) C (envO c4 co Co (envX "law" flaw_s L fa ccd (lawCl c1 c2 c3 c4 c5 c6 c7)))) (eval liT (compEnvC liS (liCl c4 co) C (envO c4 co Co (envX "law" flaw_s L fa ccd (lawCl c1 c2 c3 c4 c5 c6 c7))))))
      (fun b s' => b = flipP ks odd k ∧ ∃ h' tk', s' = { s with heap := h', toks := tk' } ∧ Fr h₀ L h' m ∧ News h₀ L h' ((C, oi) :: (Co, oC) :: (co, oc) :: (P, oP) :: (Y, LCg.lst ys) :: (Z, oZ) :: (c7, o7) :: (c6, o6) :: (c5, o5) :: (c4, o4) :: (c3, o3) :: (c2, o2) :: (c1, o1) :: rest)) E s := by
  unfold liT liS liCl envO lwS6
  k_steps
  all_goals first | k_asm | exact news_tail (by k_asm) | (refine flip_end ?_; simp_all; done)
end
end Mine
end
section
open Lean Meta Elab PySem PySem.W PyProof.Rows
set_option maxRecDepth 100000
set_option maxHeartbeats 0
set_option Elab.async false
set_option linter.unusedVariables false
namespace Mine
theorem fillBR : (fun (_ : Params → Frag) (_ : OpenLaw) => True) K rw1 := by k_fill; trivial
theorem kw61 : True := by
  k_with_none
  k_with "c_enter" => (refine' code_def ?k1 ?k2 ?k3 ?k4 ?k5 ?kA ?kF ?kK ?k6 ?k7 ?zk8 ?zk9 ?kB ?_ ?c2 ?c3 ?c4 ?c5; (case kA => exact rfl); (case kF => exact rfl); (case kK => assumption); (case k1 => k_asm); (case k2 => k_asm); (case k3 => k_asm); (case k4 => k_asm); (case k5 => k_asm); (case k6 => k_is); (case k7 => k_is); (case zk8 => ktr_room); (case zk9 => first | exact BindsTo.of_eq rfl | exact binds_K (by k_in) rfl (by k_is) rfl rfl rfl | fail "c_enter: the arguments"); (case c5 => decide); (case kB => exact locs rfl); (case c2 => exact rfl); (case c3 => exact rfl); (case c4 => exact rfl); k_whole; intro zg' zL' zh' zFG' zF' zN' zB' zX' zT'; (try dsimp only); (try k_fold))
  k_with "compareOp In str str" => (k_here; (first | with_reducible refine in_ch (by with_reducible assumption) ?_ | with_reducible refine in_nil ?_ | with_reducible refine in_b (b := false) (by decide +kernel) ?_ | with_reducible refine in_b (b := true) (by decide +kernel) ?_))
  k_with "compareOp NotIn str str" => (k_here; (first | with_reducible refine notin_ch (by with_reducible assumption) ?_ | with_reducible refine notin_nil ?_))
  k_with "compareOp Eq str str" => (k_here; (first | with_reducible refine eq_b (by with_reducible assumption) ?_ | with_reducible refine eq_b (b := false) (by decide +kernel) ?_ | with_reducible refine eq_b (b := true) (by decide +kernel) ?_))
  k_with "truthy str" => (k_here; (first | with_reducible refine truthy_ch ?_ | with_reducible refine truthy_nil ?_ | with_reducible refine truthy_p (by with_reducible assumption) (by with_reducible assumption) ?_); intro zk9)
  k_with "s_enter" => (refine' code_defS ?k1 ?k2 ?k3 ?k4 ?k5 ?XB ?TB ?D ?T0 ?kA ?k6 ?k7 ?zk8 ?zk9 ?kB ?_ ?cK ?c2 ?c3 ?c4 ?c5; (case kA => exact rfl); (case k2 => k_asm); (case k1 => k_asm); (case XB => exact Gd.x (by assumption)); (case TB => exact Gd.t (by assumption)); (case D => assumption); (case T0 => exact KtsTurn.refl); (case k3 => k_asm); (case k4 => k_asm); (case k5 => k_asm); (case k6 => k_is); (case k7 => k_is); (case zk8 => ktr_room); (case zk9 => first | exact BindsTo.of_eq rfl | exact binds_K (by k_in) rfl (by k_is) rfl rfl rfl | fail "s_enter: the arguments"); (case kB => exact locs rfl); (case cK => first | exact rfl | assumption); (case c2 => exact rfl); (case c3 => exact rfl); (case c4 => exact rfl); (case c5 => decide); k_whole; intro zg' zL' zh' zFG' zF' zN' zB' zX' zT' zD'; (try dsimp only); (try k_fold))
  trivial
def flipN (ks : List Nat) (odd : Nat) : Nat := ((List.range ks.length).filter (flipP ks odd)).length % 2
section
variable {w : World} {mean : ExcName → Option Value} {mg mb : Str → Option Value} {dp un : Nat} {gd : Option (List Code)} {outer : List Env} {A₀ : Around} {base h₀ : Heap} {L fa : Addr} {ccd : Value} {m : Str → Option Value} {s : Shared} {Q E : Value → Shared → Prop} {o1 o2 o3 o4 o5 o6 o7 oC oc oi : Obj} {c1 c2 c3 c4 c5 c6 c7 C Co co : Nat} {m₂ : Str → Option Value} {rest : List (Addr × Obj)}
theorem li_cl : closureFor liS (envO c4 co Co (envX "law" flaw_s L fa ccd (lawCl c1 c2 c3 c4 c5 c6 c7))) = pure (liCl c4 co) := by first | rfl | with_unfolding_all rfl
theorem flip_e {k : Nat} {t : Tok} {news : List (Addr × Obj)} (hC : LCg.NsObj oi m₂) (mk : m₂ "k" = some (.int (k : Nat) t))
    (B : Below A₀ base outer h₀) (F : Fr h₀ L s.heap m) (X : (K w.params).In h₀) (N : News h₀ L s.heap ((C, oi) :: news)) (T : Top q loose mean mg mb h₀)
    (hd : dp + 8 < recursionLimit) (hu : un + 100 < cLine) :
    wpAny (model pw w) (ktrTop dp un gd "law" flaw_s L fa ccd (lawCl c1 c2 c3 c4 c5 c6 c7) outer) (eval liE (compEnvC liS (liCl c4 co) C (envO c4 co Co (envX "law" flaw_s L fa ccd (lawCl c1 c2 c3 c4 c5 c6 c7)))))
      (fun v s' => ∃ t h' tk', v = .int (k : Nat) t ∧ s' = { s with heap := h', toks := tk' } ∧ Fr h₀ L h' m ∧ News h₀ L h' ((C, oi) :: news)) E s := by
  unfold liE liS liCl envO lwS6
  k_steps
  all_goals first | rfl | k_asm
theorem flip_r {P Z Y : Nat} {ys : List Value} {ks : List Nat} {oP oZ : Obj} (hn : ks.length ≤ 6) (hy : IntsAre ys (ks.map fun k : Nat => (k : Int)))
    (d4 : o4.data = .cell (some (.ref Y))) (hC : LCg.NsObj oC m₂)
    (B : Below A₀ base outer h₀) (F : Fr h₀ L s.heap m) (X : (K w.params).In h₀) (N : News h₀ L s.heap ((Co, oC) :: (co, oc) :: (P, oP) :: (Y, LCg.lst ys) :: (Z, oZ) :: (c7, o7) :: (c6, o6) :: (c5, o5) :: (c4, o4) :: (c3, o3) :: (c2, o2) :: (c1, o1) :: rest)) (T : Top q loose mean mg mb h₀)
    (hd : dp + 8 < recursionLimit) (hu : un + 100 < cLine) :
    wpAny (model pw w) (ktrTop dp un gd "law" flaw_s L fa ccd (lawCl c1 c2 c3 c4 c5 c6 c7) outer) (eval liR (envO c4 co Co (envX "law" flaw_s L fa ccd (lawCl c1 c2 c3 c4 c5 c6 c7))))
      (RangeIs h₀ L m ((Co, oC) :: (co, oc) :: (P, oP) :: (Y, LCg.lst ys) :: (Z, oZ) :: (c7, o7) :: (c6, o6) :: (c5, o5) :: (c4, o4) :: (c3, o3) :: (c2, o2) :: (c1, o1) :: rest) (ks.length : Int) 1 s) E s := by
  have hyl : ys.length = ks.length := by have := hy.length; simpa using this
  have hyl2 : ys.toArray.size = ks.length := by rw [List.size_toArray]; exact hyl
  unfold liR envO lwS6
  k_steps
  exact ⟨_, _, _, _, _, _, rfl, rfl, by assumption, by assumption, by assumption⟩
theorem flip_i {P Z Y odd : Nat} {ys : List Value} {ks : List Nat} {oP oZ : Obj} {t2 : Tok} (hn : ks.length ≤ 6) (ho : odd < 2) (hy : IntsAre ys (ks.map fun k : Nat => (k : Int)))
    (d4 : o4.data = .cell (some (.ref Y))) (dc : oc.data = .cell (some (.int (odd : Nat) t2))) (hC : LCg.NsObj oC m₂)
    (B : Below A₀ base outer h₀) (F : Fr h₀ L s.heap m) (X : (K w.params).In h₀) (N : News h₀ L s.heap ((Co, oC) :: (co, oc) :: (P, oP) :: (Y, LCg.lst ys) :: (Z, oZ) :: (c7, o7) :: (c6, o6) :: (c5, o5) :: (c4, o4) :: (c3, o3) :: (c2, o2) :: (c1, o1) :: rest)) (T : Top q loose mean mg mb h₀)
    (hd : dp + 8 < recursionLimit) (hu : un + 100 < cLine)
    (hret : ∀ (D : Nat) h tk zs, IntsAre zs (((List.range ks.length).filter (flipP ks odd)).map fun k : Nat => (k : Int)) → zs.length = ((List.range ks.length).filter (flipP ks odd)).length → zs.length ≤ 6 → Fr h₀ L h m → News h₀ L h ((D, LCg.lst zs) :: (Co, oC) :: (co, oc) :: (P, oP) :: (Y, LCg.lst ys) :: (Z, oZ) :: (c7, o7) :: (c6, o6) :: (c5, o5) :: (c4, o4) :: (c3, o3) :: (c2, o2) :: (c1, o1) :: rest) → Q (.ref D) { s with heap := h, toks := tk }) :
    wpAny (model pw w) (ktrTop dp un gd "law" flaw_s L fa ccd (lawCl c1 c2 c3 c4 c5 c6 c7) outer) (eval lwI6 (envO c4 co Co (envX "law" flaw_s L fa ccd (lawCl c1 c2 c3 c4 c5 c6 c7)))) Q E s := by
  rw [lwI6_eq]
  refine ListComp_filter (news := (Co, oC) :: (co, oc) :: (P, oP) :: (Y, LCg.lst ys) :: (Z, oZ) :: (c7, o7) :: (c6, o6) :: (c5, o5) :: (c4, o4) :: (c3, o3) :: (c2, o2) :: (c1, o1) :: rest) (p := flipP ks odd) (n := ks.length) rfl li_cl (by decide) rfl (by decide) (by rfl) (by omega) (flip_r hn hy d4 hC B F X N T hd hu) ?_ ?_ (by intro _; rfl) fun D h tk zs hz lt F' N' => hret D h tk zs hz (by simpa using hz.length) (by have e1 := hz.length; have e2 := List.length_filter_le (flipP ks odd) (List.range ks.length); rw [List.length_map] at e1; rw [List.length_range] at e2; omega) F' N'
  · intro i C oi m₃ h tk rest' t E' hi hC' mk F' N'
    exact flip_t (s := { s with heap := h, toks := tk }) (rest := rest ++ rest') hi hn ho hy d4 dc hC' mk B F' X N' T hd hu
  · intro i C oi m₃ h tk rest' t E' hi hC' mk F' N'
    exact flip_e (s := { s with heap := h, toks := tk }) hC' mk B F' X N' T hd hu
end
theorem kw62 : True := by
  k_with "eval ListComp" => (k_here; (with_unfolding_all refine' flip_i ?hn ?ho ?hy ?d4 ?dc ?hC ?rB ?rF ?rX ?rN ?rT ?rd ?ru ?_; (case rN => k_asm); (case hn => assumption); (case ho => assumption); (case hy => assumption); (case d4 => assumption); (case dc => assumption); (case hC => assumption); (case rB => k_asm); (case rF => k_asm); (case rX => k_asm); (case rT => k_asm); (case rd => ktr_room); (case ru => ktr_units); k_whole); intro zD9 zh9 ztk9 zz9 zhz9 zhl9 zhm9 zF9 zN9; (try dsimp only))
  trivial
section
variable {w : World} {mean : ExcName → Option Value} {mg mb : Str → Option Value} {dp un : Nat} {gd : Option (List Code)} {outer : List Env} {A₀ : Around} {base h₀ : Heap} {L fa : Addr} {ccd : Value} {m : Str → Option Value} {s : Shared} {Q E : Value → Shared → Prop} {o1 o2 o3 o4 o5 o6 o7 oC oc oi : Obj} {c1 c2 c3 c4 c5 c6 c7 C Co co : Nat} {m₂ : Str → Option Value} {rest : List (Addr × Obj)}
theorem flip_o {P Z Y odd : Nat} {ys : List Value} {ks : List Nat} {oP oZ : Obj} {t2 : Tok} (hn : ks.length ≤ 6) (ho : odd < 2) (hy : IntsAre ys (ks.map fun k : Nat => (k : Int)))
    (d4 : o4.data = .cell (some (.ref Y))) (dc : oc.data = .cell (some (.int (odd : Nat) t2))) (hC : LCg.NsObj oC m₂)
    (B : Below A₀ base outer h₀) (F : Fr h₀ L s.heap m) (X : (K w.params).In h₀) (N : News h₀ L s.heap ((Co, oC) :: (co, oc) :: (P, oP) :: (Y, LCg.lst ys) :: (Z, oZ) :: (c7, o7) :: (c6, o6) :: (c5, o5) :: (c4, o4) :: (c3, o3) :: (c2, o2) :: (c1, o1) :: rest)) (T : Top q loose mean mg mb h₀)
    (hd : dp + 8 < recursionLimit) (hu : un + 100 < cLine) :
    wpAny (model pw w) (ktrTop dp un gd "law" flaw_s L fa ccd (lawCl c1 c2 c3 c4 c5 c6 c7) outer) (eval lwE6 (envO c4 co Co (envX "law" flaw_s L fa ccd (lawCl c1 c2 c3 c4 c5 c6 c7))))
      (fun v s' => ∃ t h' tk', v = .int (flipN ks odd : Nat) t ∧ s' = { s with heap := h', toks := tk' } ∧ Fr h₀ L h' m ∧ News h₀ L h' ((Co, oC) :: (co, oc) :: (P, oP) :: (Y, LCg.lst ys) :: (Z, oZ) :: (c7, o7) :: (c6, o6) :: (c5, o5) :: (c4, o4) :: (c3, o3) :: (c2, o2) :: (c1, o1) :: rest)) E s := by
  unfold lwE6 envO lwS6
  k_steps
  all_goals first | k_asm | exact news_tail (by k_asm) | (rw [List.length_map, fmod2_cast]; exact rfl)
theorem lw6_cl : closureFor lwS6 (envX "law" flaw_s L fa ccd (lawCl c1 c2 c3 c4 c5 c6 c7)) = pure (([("kinds", c4)] : List (Str × Addr))) := by first | rfl | with_unfolding_all rfl
theorem lw6_new {env : Env} {cl : List (Str × Addr)} : newFunctionEnv lwS6 env.globals cl [] env.qual none .none (some env) = (alloc { cls := .type "dict", data := .dict #[] } >>= fun C => alloc { cls := .type "cell", data := .cell none } >>= fun c => pure ({ scope := lwS6, locals := C, globals := env.globals, cells := ("odd", c) :: cl, qual := env.qual, func := none, code := env.code, frame := env.frame, builtins := env.builtins } : Env)) := by first | rfl | with_unfolding_all rfl
theorem flip_ra {P Z Y : Nat} {ys : List Value} {oP oZ : Obj}
    (B : Below A₀ base outer h₀) (F : Fr h₀ L s.heap m) (X : (K w.params).In h₀) (N : News h₀ L s.heap [(P, oP), (Y, LCg.lst ys), (Z, oZ), (c7, o7), (c6, o6), (c5, o5), (c4, o4), (c3, o3), (c2, o2), (c1, o1)]) (T : Top q loose mean mg mb h₀)
    (hd : dp + 8 < recursionLimit) (hu : un + 100 < cLine) :
    wpAny (model pw w) (ktrTop dp un gd "law" flaw_s L fa ccd (lawCl c1 c2 c3 c4 c5 c6 c7) outer) (eval lwR6 (envX "law" flaw_s L fa ccd (lawCl c1 c2 c3 c4 c5 c6 c7)))
      (RangeIs h₀ L m [(P, oP), (Y, LCg.lst ys), (Z, oZ), (c7, o7), (c6, o6), (c5, o5), (c4, o4), (c3, o3), (c2, o2), (c1, o1)] ((2 : Nat) : Int) 1 s) E s := by
  unfold lwR6
  k_steps
  all_goals exact ⟨_, _, _, _, _, _, rfl, rfl, by assumption, by k_asm, by k_asm⟩
theorem flips_c {P Z Y : Nat} {ys : List Value} {ks : List Nat} {oP oZ : Obj} (hn : ks.length ≤ 6) (hy : IntsAre ys (ks.map fun k : Nat => (k : Int)))
    (d4 : o4.data = .cell (some (.ref Y)))
    (B : Below A₀ base outer h₀) (F : Fr h₀ L s.heap m) (X : (K w.params).In h₀) (N : News h₀ L s.heap [(P, oP), (Y, LCg.lst ys), (Z, oZ), (c7, o7), (c6, o6), (c5, o5), (c4, o4), (c3, o3), (c2, o2), (c1, o1)]) (T : Top q loose mean mg mb h₀)
    (hd : dp + 8 < recursionLimit) (hu : un + 100 < cLine)
    (hret : ∀ (D : Nat) h tk zs, IntsAre zs ((List.range 2).map fun i => ((flipN ks i : Nat) : Int)) → (∀ p ∈ [(P, oP), (Y, LCg.lst ys), (Z, oZ), (c7, o7), (c6, o6), (c5, o5), (c4, o4), (c3, o3), (c2, o2), (c1, o1)], p.1 < D) → Fr h₀ L h m → News h₀ L h ((D, LCg.lst zs) :: [(P, oP), (Y, LCg.lst ys), (Z, oZ), (c7, o7), (c6, o6), (c5, o5), (c4, o4), (c3, o3), (c2, o2), (c1, o1)]) → Q (.ref D) { s with heap := h, toks := tk }) :
    wpAny (model pw w) (ktrTop dp un gd "law" flaw_s L fa ccd (lawCl c1 c2 c3 c4 c5 c6 c7) outer) (eval lwL6 (envX "law" flaw_s L fa ccd (lawCl c1 c2 c3 c4 c5 c6 c7))) Q E s := by
  rw [lwL6_eq]
  refine ListComp_cell (news := [(P, oP), (Y, LCg.lst ys), (Z, oZ), (c7, o7), (c6, o6), (c5, o5), (c4, o4), (c3, o3), (c2, o2), (c1, o1)]) (f := fun i => ((flipN ks i : Nat) : Int)) (n := 2) rfl lw6_cl rfl (by decide) lw6_new (by intro _ _; rfl) (by omega) (flip_ra B F X N T hd hu) ?_ (by intro _; rfl) hret
  intro i C c oC oc h tk rest t E' hi hC' dc lt F' N'
  exact flip_o (s := { s with heap := h, toks := tk }) (rest := rest) hn hi hy d4 dc hC' B F' X N' T hd hu
end
end Mine
end
section
open Lean Meta Elab PySem PySem.W PyProof.Rows
set_option maxRecDepth 100000
set_option maxHeartbeats 0
set_option Elab.async false
set_option linter.unusedVariables false
namespace Mine
theorem fillBS : (fun (_ : Params → Frag) (_ : OpenLaw) => True) K rw1 := by k_fill; trivial
theorem kw63 : True := by
  k_with_none
  k_with "c_enter" => (refine' code_def ?k1 ?k2 ?k3 ?k4 ?k5 ?kA ?kF ?kK ?k6 ?k7 ?zk8 ?zk9 ?kB ?_ ?c2 ?c3 ?c4 ?c5; (case kA => exact rfl); (case kF => exact rfl); (case kK => assumption); (case k1 => k_asm); (case k2 => k_asm); (case k3 => k_asm); (case k4 => k_asm); (case k5 => k_asm); (case k6 => k_is); (case k7 => k_is); (case zk8 => ktr_room); (case zk9 => first | exact BindsTo.of_eq rfl | exact binds_K (by k_in) rfl (by k_is) rfl rfl rfl | fail "c_enter: the arguments"); (case c5 => decide); (case kB => exact locs rfl); (case c2 => exact rfl); (case c3 => exact rfl); (case c4 => exact rfl); k_whole; intro zg' zL' zh' zFG' zF' zN' zB' zX' zT'; (try dsimp only); (try k_fold))
  k_with "compareOp In str str" => (k_here; (first | with_reducible refine in_ch (by with_reducible assumption) ?_ | with_reducible refine in_nil ?_ | with_reducible refine in_b (b := false) (by decide +kernel) ?_ | with_reducible refine in_b (b := true) (by decide +kernel) ?_))
  k_with "compareOp NotIn str str" => (k_here; (first | with_reducible refine notin_ch (by with_reducible assumption) ?_ | with_reducible refine notin_nil ?_))
  k_with "compareOp Eq str str" => (k_here; (first | with_reducible refine eq_b (by with_reducible assumption) ?_ | with_reducible refine eq_b (b := false) (by decide +kernel) ?_ | with_reducible refine eq_b (b := true) (by decide +kernel) ?_))
  k_with "truthy str" => (k_here; (first | with_reducible refine truthy_ch ?_ | with_reducible refine truthy_nil ?_ | with_reducible refine truthy_p (by with_reducible assumption) (by with_reducible assumption) ?_); intro zk9)
  k_with "s_enter" => (refine' code_defS ?k1 ?k2 ?k3 ?k4 ?k5 ?XB ?TB ?D ?T0 ?kA ?k6 ?k7 ?zk8 ?zk9 ?kB ?_ ?cK ?c2 ?c3 ?c4 ?c5; (case kA => exact rfl); (case k2 => k_asm); (case k1 => k_asm); (case XB => exact Gd.x (by assumption)); (case TB => exact Gd.t (by assumption)); (case D => assumption); (case T0 => exact KtsTurn.refl); (case k3 => k_asm); (case k4 => k_asm); (case k5 => k_asm); (case k6 => k_is); (case k7 => k_is); (case zk8 => ktr_room); (case zk9 => first | exact BindsTo.of_eq rfl | exact binds_K (by k_in) rfl (by k_is) rfl rfl rfl | fail "s_enter: the arguments"); (case kB => exact locs rfl); (case cK => first | exact rfl | assumption); (case c2 => exact rfl); (case c3 => exact rfl); (case c4 => exact rfl); (case c5 => decide); k_whole; intro zg' zL' zh' zFG' zF' zN' zB' zX' zT' zD'; (try dsimp only); (try k_fold))
  trivial
def crossN (ks : List Nat) : Nat := ks.count 2 % 2
theorem count_all (ks : List Nat) : List.count (2 : Int) (ks.map fun k : Nat => (k : Int)) = ks.count 2 := by
  have h := count_cast ks ks.length
  rw [Int.toNat_natCast, List.take_length] at h
  rw [← h, List.take_of_length_le (by rw [List.length_map]; exact Nat.le_refl _)]
theorem kw64 : True := by
  k_with "eval ListComp" => (k_here; (with_unfolding_all refine' flips_c ?hn ?hy ?d4 ?rB ?rF ?rX ?rN ?rT ?rd ?ru ?_; (case rN => k_asm); (case d4 => assumption); (case hy => assumption); (case hn => assumption); (case rB => k_asm); (case rF => k_asm); (case rX => k_asm); (case rT => k_asm); (case rd => ktr_room); (case ru => ktr_units); k_whole); intro zD9 zh9 ztk9 zz9 zhz9 zl9 zF9 zN9; (try k_lt zl9); (try dsimp only))
  trivial
section
variable {w : World} {mean : ExcName → Option Value} {mg mb : Str → Option Value} {dp un : Nat} {gd : Option (List Code)} {outer : List Env} {A₀ : Around} {base h₀ : Heap} {L fa : Addr} {ccd : Value} {m : Str → Option Value} {s : Shared} {Q : Flow → Shared → Prop} {E : Value → Shared → Prop} {o1 o2 o3 o4 o5 o6 o7 : Obj} {c1 c2 c3 c4 c5 c6 c7 : Nat}
theorem law_6 {P Z Y : Nat} {ys : List Value} {ks : List Nat} {oP oZ : Obj} (hn : ks.length ≤ 6) (hy : IntsAre ys (ks.map fun k : Nat => (k : Int)))
    (d4 : o4.data = .cell (some (.ref Y))) (d5 : o5.data = .cell none) (hc : c1 < c2 ∧ c2 < c3 ∧ c3 < c4 ∧ c4 < c5 ∧ c5 < c6 ∧ c6 < c7 ∧ c7 < Z ∧ Z < Y ∧ Y < P)
    (B : Below A₀ base outer h₀) (F : Fr h₀ L s.heap m) (X : (K w.params).In h₀) (N : News h₀ L s.heap [(P, oP), (Y, LCg.lst ys), (Z, oZ), (c7, o7), (c6, o6), (c5, o5), (c4, o4), (c3, o3), (c2, o2), (c1, o1)]) (T : Top q loose mean mg mb h₀)
    (hd : dp + 8 < recursionLimit) (hu : un + 100 < cLine)
    (hret : ∀ (D : Nat) h' tk' zs o5', P < D → IntsAre zs [((flipN ks 0 : Nat) : Int), ((flipN ks 1 : Nat) : Int)] → o5'.data = .cell (some (.ref D)) → Fr h₀ L h' m → News h₀ L h' [(D, LCg.lst zs), (P, oP), (Y, LCg.lst ys), (Z, oZ), (c7, o7), (c6, o6), (c5, o5'), (c4, o4), (c3, o3), (c2, o2), (c1, o1)] → Q .next { s with heap := h', toks := tk' }) :
    wpAny (model pw w) (ktrTop dp un gd "law" flaw_s L fa ccd (lawCl c1 c2 c3 c4 c5 c6 c7) outer) (exec lw6 (envX "law" flaw_s L fa ccd (lawCl c1 c2 c3 c4 c5 c6 c7))) Q E s := by
  obtain ⟨q0, q1, q2, q3, q4, q5, q6, q7, q8⟩ := hc
  have s2 : c3 < c5 := Nat.lt_trans q2 q3
  have s1 : c2 < c5 := Nat.lt_trans q1 s2
  have s0 : c1 < c5 := Nat.lt_trans q0 s1
  have s6 : c5 < c7 := Nat.lt_trans q4 q5
  have s7 : c5 < Z := Nat.lt_trans s6 q6
  have s8 : c5 < Y := Nat.lt_trans s7 q7
  have s9 : c5 < P := Nat.lt_trans s8 q8
  clear q0 q1 q2 q5 q6 q7 q8
  unfold lw6
  k_steps
  rename News h₀ L _ _ => N9
  rename Fr h₀ L _ _ => F9
  refine hret _ _ _ _ _ ?a ?b ?c F9 N9
  case a => omega
  case b => assumption
  case c => assumption
theorem law_7 {P Z Y D : Nat} {ys zs : List Value} {ks : List Nat} {oP oZ : Obj} (hn : ks.length ≤ 6) (hy : IntsAre ys (ks.map fun k : Nat => (k : Int)))
    (d4 : o4.data = .cell (some (.ref Y))) (d6 : o6.data = .cell none) (hc : c1 < c2 ∧ c2 < c3 ∧ c3 < c4 ∧ c4 < c5 ∧ c5 < c6 ∧ c6 < c7 ∧ c7 < Z ∧ Z < Y ∧ Y < P ∧ P < D)
    (B : Below A₀ base outer h₀) (F : Fr h₀ L s.heap m) (X : (K w.params).In h₀) (N : News h₀ L s.heap [(D, LCg.lst zs), (P, oP), (Y, LCg.lst ys), (Z, oZ), (c7, o7), (c6, o6), (c5, o5), (c4, o4), (c3, o3), (c2, o2), (c1, o1)]) (T : Top q loose mean mg mb h₀)
    (hd : dp + 8 < recursionLimit) (hu : un + 100 < cLine)
    (hret : ∀ h' tk' t o6', o6'.data = .cell (some (.int (crossN ks : Nat) t)) → Fr h₀ L h' m → News h₀ L h' [(D, LCg.lst zs), (P, oP), (Y, LCg.lst ys), (Z, oZ), (c7, o7), (c6, o6'), (c5, o5), (c4, o4), (c3, o3), (c2, o2), (c1, o1)] → Q .next { s with heap := h', toks := tk' }) :
    wpAny (model pw w) (ktrTop dp un gd "law" flaw_s L fa ccd (lawCl c1 c2 c3 c4 c5 c6 c7) outer) (exec lw7 (envX "law" flaw_s L fa ccd (lawCl c1 c2 c3 c4 c5 c6 c7))) Q E s := by
  obtain ⟨q0, q1, q2, q3, q4, q5, q6, q7, q8, q9⟩ := hc
  have s3 : c4 < c6 := Nat.lt_trans q3 q4
  have s2 : c3 < c6 := Nat.lt_trans q2 s3
  have s1 : c2 < c6 := Nat.lt_trans q1 s2
  have s0 : c1 < c6 := Nat.lt_trans q0 s1
  have s7 : c6 < Z := Nat.lt_trans q5 q6
  have s8 : c6 < Y := Nat.lt_trans s7 q7
  have s9 : c6 < P := Nat.lt_trans s8 q8
  have s10 : c6 < D := Nat.lt_trans s9 q9
  clear q0 q1 q2 q3 q6 q7 q8 q9
  unfold lw7
  k_steps
  rename News h₀ L _ _ => N9
  rename Fr h₀ L _ _ => F9
  rename Obj.data _ = _ => d9
  rw [count_all, fmod2_cast] at d9
  exact hret _ _ _ _ d9 F9 N9
theorem law_8 {P Z D cr ht wd : Nat} {zs : List Value} {oP : Obj} {t t1 t2 : Tok} (hr : cr < 2)
    (d2 : o2.data = .cell (some (.ref Z))) (d6 : o6.data = .cell (some (.int (cr : Nat) t)))
    (B : Below A₀ base outer h₀) (F : Fr h₀ L s.heap m) (X : (K w.params).In h₀) (N : News h₀ L s.heap [(D, LCg.lst zs), (P, oP), (Z, W.listOf #[.int (ht : Nat) t1, .int (wd : Nat) t2] 0), (c7, o7), (c6, o6), (c5, o5), (c4, o4), (c3, o3), (c2, o2), (c1, o1)]) (T : Top q loose mean mg mb h₀)
    (hd : dp + 8 < recursionLimit) (hu : un + 100 < cLine)
    (hret : ∀ h' tk' t', Fr h₀ L h' (fun y => if y = "high" then some (.int ((if cr = 0 then ht else wd : Nat) : Int) t') else m y) → News h₀ L h' [(D, LCg.lst zs), (P, oP), (Z, W.listOf #[.int (ht : Nat) t1, .int (wd : Nat) t2] 0), (c7, o7), (c6, o6), (c5, o5), (c4, o4), (c3, o3), (c2, o2), (c1, o1)] → Q .next { s with heap := h', toks := tk' }) :
    wpAny (model pw w) (ktrTop dp un gd "law" flaw_s L fa ccd (lawCl c1 c2 c3 c4 c5 c6 c7) outer) (exec lw8 (envX "law" flaw_s L fa ccd (lawCl c1 c2 c3 c4 c5 c6 c7))) Q E s := by
  have h2 : cr = 0 ∨ cr = 1 := by omega
  unfold lw8
  rcases h2 with rfl | rfl
  · k_steps
    exact hret _ _ _ (by assumption) (by assumption)
  · k_steps
    exact hret _ _ _ (by assumption) (by assumption)
theorem law_9 {P Z D cr ht wd : Nat} {zs : List Value} {oP : Obj} {t t1 t2 : Tok} (hr : cr < 2)
    (d2 : o2.data = .cell (some (.ref Z))) (d6 : o6.data = .cell (some (.int (cr : Nat) t))) (d7 : o7.data = .cell none) (hc : c1 < c2 ∧ c2 < c3 ∧ c3 < c4 ∧ c4 < c5 ∧ c5 < c6 ∧ c6 < c7 ∧ c7 < Z ∧ Z < P ∧ P < D)
    (B : Below A₀ base outer h₀) (F : Fr h₀ L s.heap m) (X : (K w.params).In h₀) (N : News h₀ L s.heap [(D, LCg.lst zs), (P, oP), (Z, W.listOf #[.int (ht : Nat) t1, .int (wd : Nat) t2] 0), (c7, o7), (c6, o6), (c5, o5), (c4, o4), (c3, o3), (c2, o2), (c1, o1)]) (T : Top q loose mean mg mb h₀)
    (hd : dp + 8 < recursionLimit) (hu : un + 100 < cLine)
    (hret : ∀ h' tk' t' o7', o7'.data = .cell (some (.int ((if cr = 0 then wd else ht : Nat) : Int) t')) → Fr h₀ L h' m → News h₀ L h' [(D, LCg.lst zs), (P, oP), (Z, W.listOf #[.int (ht : Nat) t1, .int (wd : Nat) t2] 0), (c7, o7'), (c6, o6), (c5, o5), (c4, o4), (c3, o3), (c2, o2), (c1, o1)] → Q .next { s with heap := h', toks := tk' }) :
    wpAny (model pw w) (ktrTop dp un gd "law" flaw_s L fa ccd (lawCl c1 c2 c3 c4 c5 c6 c7) outer) (exec lw9 (envX "law" flaw_s L fa ccd (lawCl c1 c2 c3 c4 c5 c6 c7))) Q E s := by
  have h2 : cr = 0 ∨ cr = 1 := by omega
  obtain ⟨q0, q1, q2, q3, q4, q5, q6, q7, q8⟩ := hc
  have s4 : c5 < c7 := Nat.lt_trans q4 q5
  have s3 : c4 < c7 := Nat.lt_trans q3 s4
  have s2 : c3 < c7 := Nat.lt_trans q2 s3
  have s1 : c2 < c7 := Nat.lt_trans q1 s2
  have s0 : c1 < c7 := Nat.lt_trans q0 s1
  have s8 : c7 < P := Nat.lt_trans q6 q7
  have s9 : c7 < D := Nat.lt_trans s8 q8
  clear q0 q1 q2 q3 q4 q7 q8
  unfold lw9
  rcases h2 with rfl | rfl
  · k_steps
    exact hret _ _ _ _ (by assumption) (by assumption) (by assumption)
  · k_steps
    exact hret _ _ _ _ (by assumption) (by assumption) (by assumption)
end
end Mine
end
section
open Lean Meta Elab PySem PySem.W PyProof.Rows
set_option maxRecDepth 100000
set_option maxHeartbeats 0
set_option Elab.async false
set_option linter.unusedVariables false
namespace Mine
theorem fillBT : (fun (_ : Params → Frag) (_ : OpenLaw) => True) K rw1 := by k_fill; trivial
theorem kw65 : True := by
  k_with_none
  k_with "c_enter" => (refine' code_def ?k1 ?k2 ?k3 ?k4 ?k5 ?kA ?kF ?kK ?k6 ?k7 ?zk8 ?zk9 ?kB ?_ ?c2 ?c3 ?c4 ?c5; (case kA => exact rfl); (case kF => exact rfl); (case kK => assumption); (case k1 => k_asm); (case k2 => k_asm); (case k3 => k_asm); (case k4 => k_asm); (case k5 => k_asm); (case k6 => k_is); (case k7 => k_is); (case zk8 => ktr_room); (case zk9 => first | exact BindsTo.of_eq rfl | exact binds_K (by k_in) rfl (by k_is) rfl rfl rfl | fail "c_enter: the arguments"); (case c5 => decide); (case kB => exact locs rfl); (case c2 => exact rfl); (case c3 => exact rfl); (case c4 => exact rfl); k_whole; intro zg' zL' zh' zFG' zF' zN' zB' zX' zT'; (try dsimp only); (try k_fold))
  k_with "compareOp In str str" => (k_here; (first | with_reducible refine in_ch (by with_reducible assumption) ?_ | with_reducible refine in_nil ?_ | with_reducible refine in_b (b := false) (by decide +kernel) ?_ | with_reducible refine in_b (b := true) (by decide +kernel) ?_))
  k_with "compareOp NotIn str str" => (k_here; (first | with_reducible refine notin_ch (by with_reducible assumption) ?_ | with_reducible refine notin_nil ?_))
  k_with "compareOp Eq str str" => (k_here; (first | with_reducible refine eq_b (by with_reducible assumption) ?_ | with_reducible refine eq_b (b := false) (by decide +kernel) ?_ | with_reducible refine eq_b (b := true) (by decide +kernel) ?_))
  k_with "truthy str" => (k_here; (first | with_reducible refine truthy_ch ?_ | with_reducible refine truthy_nil ?_ | with_reducible refine truthy_p (by with_reducible assumption) (by with_reducible assumption) ?_); intro zk9)
  k_with "s_enter" => (refine' code_defS ?k1 ?k2 ?k3 ?k4 ?k5 ?XB ?TB ?D ?T0 ?kA ?k6 ?k7 ?zk8 ?zk9 ?kB ?_ ?cK ?c2 ?c3 ?c4 ?c5; (case kA => exact rfl); (case k2 => k_asm); (case k1 => k_asm); (case XB => exact Gd.x (by assumption)); (case TB => exact Gd.t (by assumption)); (case D => assumption); (case T0 => exact KtsTurn.refl); (case k3 => k_asm); (case k4 => k_asm); (case k5 => k_asm); (case k6 => k_is); (case k7 => k_is); (case zk8 => ktr_room); (case zk9 => first | exact BindsTo.of_eq rfl | exact binds_K (by k_in) rfl (by k_is) rfl rfl rfl | fail "s_enter: the arguments"); (case kB => exact locs rfl); (case cK => first | exact rfl | assumption); (case c2 => exact rfl); (case c3 => exact rfl); (case c4 => exact rfl); (case c5 => decide); k_whole; intro zg' zL' zh' zFG' zF' zN' zB' zX' zT' zD'; (try dsimp only); (try k_fold))
  trivial
def plcR (ht wd f0 f1 r c : Nat) : Nat := (if f1 = 1 then ht - 1 - r else r) * wd + (if f0 = 1 then wd - 1 - c else c)
def plcN (ht wd f0 f1 cr y x : Nat) : Nat := if cr = 0 then plcR ht wd f0 f1 y x else plcR ht wd f0 f1 x y
theorem plc_v {ht wd f0 f1 r c : Nat} (hr : r < ht) (hc : c < wd) {R C : Int} (hR : ((f1 : Int) = 1 ∧ R = (ht : Int) - 1 - r) ∨ ((f1 : Int) ≠ 1 ∧ R = r)) (hC : ((f0 : Int) = 1 ∧ C = (wd : Int) - 1 - c) ∨ ((f0 : Int) ≠ 1 ∧ C = c)) : R * wd + C = ((plcR ht wd f0 f1 r c : Nat) : Int) := by
  unfold plcR
  have eR : R = ((if f1 = 1 then ht - 1 - r else r : Nat) : Int) := by
    rcases hR with ⟨h, e⟩ | ⟨h, e⟩
    · rw [if_pos (by omega), e]; omega
    · rw [if_neg (by omega), e]
  have eC : C = ((if f0 = 1 then wd - 1 - c else c : Nat) : Int) := by
    rcases hC with ⟨h, e⟩ | ⟨h, e⟩
    · rw [if_pos (by omega), e]; omega
    · rw [if_neg (by omega), e]
  rw [eR, eC]
  push_cast
  rfl
theorem mul_wd {prog : Program} {w : World} {A : Around} {E : Value → Shared → Prop} {s : Shared} {Q : Value → Shared → Prop} {ht wd : Nat} {b : Int} {t u : Tok} (hw : wd ≤ 4) (h : ∀ tk, Q (.int (b * (wd : Int)) s.toks) { s with toks := tk }) : wpAny (model prog w) A (binaryOp .Mult (.int b t) (.int ([(ht : Int), (wd : Int)].getD (Int.toNat 1) 0) u)) Q E s := by
  show wpAny (model prog w) A (binaryOp .Mult (.int b t) (.int (wd : Int) u)) Q E s
  exact mul_int (h _) (IntMulOk.of_right (intBits_le_64 (by omega) (by omega)))
theorem kw66 : True := by
  k_with "binaryOp Mult int int" => (k_here; k_dflt (refine' mul_wd ?w1 ?_; (case w1 => assumption); k_whole); intro zk9)
  trivial
section
variable {w : World} {mean : ExcName → Option Value} {mg mb : Str → Option Value} {dp un : Nat} {gd : Option (List Code)} {cn : Str} {cs : Scope} {a : Addr} {ccd : Value} {cl : List (Str × Addr)} {outer : List Env} {A₀ : Around} {base h₀ : Heap} {L : Addr} {m : Str → Option Value} {news : List (Addr × Obj)} {s : Shared} {Q E : Value → Shared → Prop}
theorem kw67 : True := by
  trivial
theorem place_c {Z D ht wd f0 f1 cr y x n1 n2 : Nat} {t1 t2 t3 t4 t5 t6 t7 : Tok} (h1 : ht ≤ 4) (w1 : wd ≤ 4) (hf0 : f0 < 2) (hf1 : f1 < 2) (hcr : cr < 2) (hy : y < if cr = 0 then ht else wd) (hx : x < if cr = 0 then wd else ht)
    (B : Below A₀ base outer h₀) (F : Fr h₀ L s.heap m) (X : (K w.params).In h₀) (N : News h₀ L s.heap ((D, W.listOf #[.int (f0 : Nat) t3, .int (f1 : Nat) t4] n2) :: (Z, W.listOf #[.int (ht : Nat) t1, .int (wd : Nat) t2] n1) :: news)) (T : Top q loose mean mg mb h₀) (hkd : cs.kind = .function)
    (hd : dp + 2 < recursionLimit) (hu : un + 20 < cLine)
    (hret : ∀ k t h' tk', k = ((plcN ht wd f0 f1 cr y x : Nat) : Int) → Fr h₀ L h' m → News h₀ L h' ((D, W.listOf #[.int (f0 : Nat) t3, .int (f1 : Nat) t4] n2) :: (Z, W.listOf #[.int (ht : Nat) t1, .int (wd : Nat) t2] n1) :: news) → Q (.int k t) { s with heap := h', toks := tk' }) :
    wpAny (model pw w) (ktrTop dp un gd cn cs L a ccd cl outer) (call (.ref 774) [.int (y : Nat) t5, .int (x : Nat) t6, .ref Z, .ref D, .int (cr : Nat) t7]) Q E s := by
  have hc2 : cr = 0 ∨ cr = 1 := by omega
  have hf2 : f0 = 0 ∨ f0 = 1 := by omega
  have hf3 : f1 = 0 ∨ f1 = 1 := by omega
  refine wpAny_call ?_
  k_dflt (walk_at "c_enter")
  rcases hc2 with rfl | rfl <;> k_steps
  all_goals (refine hret _ _ _ _ ?_ (by k_asm) (by k_asm); first | exact plc_v hy hx (by first | exact .inl ⟨by assumption, rfl⟩ | exact .inr ⟨by assumption, rfl⟩) (by first | exact .inl ⟨by assumption, rfl⟩ | exact .inr ⟨by assumption, rfl⟩) | exact plc_v hx hy (by first | exact .inl ⟨by assumption, rfl⟩ | exact .inr ⟨by assumption, rfl⟩) (by first | exact .inl ⟨by assumption, rfl⟩ | exact .inr ⟨by assumption, rfl⟩))
end
end Mine
end
section
open Lean Meta Elab PySem PySem.W PyProof.Rows
set_option maxRecDepth 100000
set_option maxHeartbeats 0
set_option Elab.async false
set_option linter.unusedVariables false
namespace Mine
theorem fillBU : (fun (_ : Params → Frag) (_ : OpenLaw) => True) K rw1 := by k_fill; trivial
theorem kw68 : True := by
  k_with_none
  k_with "c_enter" => (refine' code_def ?k1 ?k2 ?k3 ?k4 ?k5 ?kA ?kF ?kK ?k6 ?k7 ?zk8 ?zk9 ?kB ?_ ?c2 ?c3 ?c4 ?c5; (case kA => exact rfl); (case kF => exact rfl); (case kK => assumption); (case k1 => k_asm); (case k2 => k_asm); (case k3 => k_asm); (case k4 => k_asm); (case k5 => k_asm); (case k6 => k_is); (case k7 => k_is); (case zk8 => ktr_room); (case zk9 => first | exact BindsTo.of_eq rfl | exact binds_K (by k_in) rfl (by k_is) rfl rfl rfl | fail "c_enter: the arguments"); (case c5 => decide); (case kB => exact locs rfl); (case c2 => exact rfl); (case c3 => exact rfl); (case c4 => exact rfl); k_whole; intro zg' zL' zh' zFG' zF' zN' zB' zX' zT'; (try dsimp only); (try k_fold))
  k_with "compareOp In str str" => (k_here; (first | with_reducible refine in_ch (by with_reducible assumption) ?_ | with_reducible refine in_nil ?_ | with_reducible refine in_b (b := false) (by decide +kernel) ?_ | with_reducible refine in_b (b := true) (by decide +kernel) ?_))
  k_with "compareOp NotIn str str" => (k_here; (first | with_reducible refine notin_ch (by with_reducible assumption) ?_ | with_reducible refine notin_nil ?_))
  k_with "compareOp Eq str str" => (k_here; (first | with_reducible refine eq_b (by with_reducible assumption) ?_ | with_reducible refine eq_b (b := false) (by decide +kernel) ?_ | with_reducible refine eq_b (b := true) (by decide +kernel) ?_))
  k_with "truthy str" => (k_here; (first | with_reducible refine truthy_ch ?_ | with_reducible refine truthy_nil ?_ | with_reducible refine truthy_p (by with_reducible assumption) (by with_reducible assumption) ?_); intro zk9)
  k_with "s_enter" => (refine' code_defS ?k1 ?k2 ?k3 ?k4 ?k5 ?XB ?TB ?D ?T0 ?kA ?k6 ?k7 ?zk8 ?zk9 ?kB ?_ ?cK ?c2 ?c3 ?c4 ?c5; (case kA => exact rfl); (case k2 => k_asm); (case k1 => k_asm); (case XB => exact Gd.x (by assumption)); (case TB => exact Gd.t (by assumption)); (case D => assumption); (case T0 => exact KtsTurn.refl); (case k3 => k_asm); (case k4 => k_asm); (case k5 => k_asm); (case k6 => k_is); (case k7 => k_is); (case zk8 => ktr_room); (case zk9 => first | exact BindsTo.of_eq rfl | exact binds_K (by k_in) rfl (by k_is) rfl rfl rfl | fail "s_enter: the arguments"); (case kB => exact locs rfl); (case cK => first | exact rfl | assumption); (case c2 => exact rfl); (case c3 => exact rfl); (case c4 => exact rfl); (case c5 => decide); k_whole; intro zg' zL' zh' zFG' zF' zN' zB' zX' zT' zD'; (try dsimp only); (try k_fold))
  trivial
section
variable {w : World} {mean : ExcName → Option Value} {mg mb : Str → Option Value} {dp un : Nat} {gd : Option (List Code)} {cn : Str} {cs : Scope} {a : Addr} {ccd : Value} {cl : List (Str × Addr)} {outer : List Env} {A₀ : Around} {base h₀ : Heap} {L : Addr} {m : Str → Option Value} {news : List (Addr × Obj)} {s : Shared} {Q E : Value → Shared → Prop}
theorem place_w {C P Z D ht wd f0 f1 cr y x n1 n2 : Nat} {oC oP : Obj} {t1 t2 t3 t4 t5 t6 t7 : Tok} (h1 : ht ≤ 4) (w1 : wd ≤ 4) (hf0 : f0 < 2) (hf1 : f1 < 2) (hcr : cr < 2) (hy : y < if cr = 0 then ht else wd) (hx : x < if cr = 0 then wd else ht)
    (B : Below A₀ base outer h₀) (F : Fr h₀ L s.heap m) (X : (K w.params).In h₀) (N : News h₀ L s.heap ((C, oC) :: (D, W.listOf #[.int (f0 : Nat) t3, .int (f1 : Nat) t4] n2) :: (P, oP) :: (Z, W.listOf #[.int (ht : Nat) t1, .int (wd : Nat) t2] n1) :: news)) (T : Top q loose mean mg mb h₀) (hkd : cs.kind = .function)
    (hd : dp + 2 < recursionLimit) (hu : un + 20 < cLine)
    (hret : ∀ k t h' tk', k = ((plcN ht wd f0 f1 cr y x : Nat) : Int) → Fr h₀ L h' m → News h₀ L h' ((C, oC) :: (D, W.listOf #[.int (f0 : Nat) t3, .int (f1 : Nat) t4] n2) :: (P, oP) :: (Z, W.listOf #[.int (ht : Nat) t1, .int (wd : Nat) t2] n1) :: news) → Q (.int k t) { s with heap := h', toks := tk' }) :
    wpAny (model pw w) (ktrTop dp un gd cn cs L a ccd cl outer) (call (.ref 774) [.int (y : Nat) t5, .int (x : Nat) t6, .ref Z, .ref D, .int (cr : Nat) t7]) Q E s := by
  refine place_c (t1 := t1) (t2 := t2) (t3 := t3) (t4 := t4) (n1 := n1) (n2 := n2) (news := (C, oC) :: (D, W.listOf #[.int (f0 : Nat) t3, .int (f1 : Nat) t4] n2) :: (P, oP) :: (Z, W.listOf #[.int (ht : Nat) t1, .int (wd : Nat) t2] n1) :: news) h1 w1 hf0 hf1 hcr hy hx B F X (newsSub N fun p hp => ?_) T hkd hd hu fun k t h' tk' e F' N' => hret k t h' tk' e F' (newsSub N' fun p hp => List.mem_cons_of_mem _ (List.mem_cons_of_mem _ hp))
  simp only [List.mem_cons] at hp ⊢
  rcases hp with h | h | h | h | h | h | h <;> simp [h]
end
noncomputable def lwL10 : PySem.Expr := litOf (match lw10 with | .Assign _ (.Call _ (l :: _) _ _) _ => l | _ => .Constant .none 0 default) (by conv => rhs; whnf)
noncomputable def duE : PySem.Expr := litOf (match lwL10 with | .ListComp e _ _ _ => e | _ => .Constant .none 0 default) (by conv => rhs; whnf)
noncomputable def duS : Scope := litOf (match lwL10 with | .ListComp _ _ sc _ => sc | _ => default) (by conv => rhs; whnf)
noncomputable def duR0 : PySem.Expr := litOf (match lwL10 with | .ListComp _ (g :: _) _ _ => g.iter | _ => .Constant .none 0 default) (by conv => rhs; whnf)
noncomputable def duR1 : PySem.Expr := litOf (match lwL10 with | .ListComp _ (_ :: g :: _) _ _ => g.iter | _ => .Constant .none 0 default) (by conv => rhs; whnf)
noncomputable def duQa : Pos := litOf (match lwL10 with | .ListComp _ (⟨.Name _ p, _, _, _⟩ :: _) _ _ => p | _ => default) (by conv => rhs; whnf)
noncomputable def duQb : Pos := litOf (match lwL10 with | .ListComp _ (_ :: ⟨.Name _ p, _, _, _⟩ :: _) _ _ => p | _ => default) (by conv => rhs; whnf)
noncomputable def duQ : Pos := litOf (match lwL10 with | .ListComp _ _ _ p => p | _ => default) (by conv => rhs; whnf)
theorem lwL10_eq : lwL10 = .ListComp duE [⟨.Name "y" duQa, duR0, [], 0⟩, ⟨.Name "x" duQb, duR1, [], 0⟩] duS duQ := by with_unfolding_all rfl
abbrev duCl (c1 c2 c3 c4 c5 c6 c7 : Nat) : List (Str × Addr) := [("wide", c7), ("size", c2), ("octets", c3), ("flips", c5), ("crossed", c6)]
theorem plcR_lt {ht wd f0 f1 r c : Nat} (hr : r < ht) (hc : c < wd) : plcR ht wd f0 f1 r c < ht * wd := by
  unfold plcR
  have h1 : (if f1 = 1 then ht - 1 - r else r) < ht := by split <;> omega
  have h2 : (if f0 = 1 then wd - 1 - c else c) < wd := by split <;> omega
  generalize (if f1 = 1 then ht - 1 - r else r) = R at *
  generalize (if f0 = 1 then wd - 1 - c else c) = C at *
  have h3 : (R + 1) * wd ≤ ht * wd := Nat.mul_le_mul_right _ h1
  rw [Nat.succ_mul] at h3
  omega
theorem plcN_lt {ht wd f0 f1 cr y x : Nat} (hcr : cr < 2) (hy : y < if cr = 0 then ht else wd) (hx : x < if cr = 0 then wd else ht) : plcN ht wd f0 f1 cr y x < ht * wd := by
  unfold plcN
  split at hy
  · rename_i h; rw [if_pos h] at hx ⊢; exact plcR_lt hy hx
  · rename_i h; rw [if_neg h] at hx ⊢; exact plcR_lt hx hy
section
variable {w : World} {mean : ExcName → Option Value} {mg mb : Str → Option Value} {dp un : Nat} {gd : Option (List Code)} {outer : List Env} {A₀ : Around} {base h₀ : Heap} {L fa : Addr} {ccd : Value} {m : Str → Option Value} {s : Shared} {Q E : Value → Shared → Prop} {o1 o2 o3 o4 o5 o6 o7 : Obj} {c1 c2 c3 c4 c5 c6 c7 : Nat}
theorem du_cl : closureFor duS (envX "law" flaw_s L fa ccd (lawCl c1 c2 c3 c4 c5 c6 c7)) = pure (duCl c1 c2 c3 c4 c5 c6 c7) := by first | rfl | with_unfolding_all rfl
theorem kw69 : True := by
  k_with "call ref" => (k_here; k_dflt (refine' place_w ?h1 ?w1 ?f0 ?f1 ?hc ?hy ?hx ?rB ?rF ?rX ?rN ?rT ?rK ?rd ?ru ?_; (case rN => k_asm); (case h1 => assumption); (case w1 => assumption); (case f0 => assumption); (case f1 => assumption); (case hc => assumption); (case hy => assumption); (case hx => assumption); (case rB => k_asm); (case rF => k_asm); (case rX => k_asm); (case rT => k_asm); (case rK => first | exact rfl | assumption); (case rd => ktr_room); (case ru => ktr_units); k_whole); intro zi9 zt9 zh9 ztk9 ze9 zF9 zN9; (try dsimp only))
  k_with "subscriptTail Name Call bytes int" => (k_here; (with_unfolding_all refine' bytes_item ?k0 ?k1 ?k2 ?kz ?_ ?k3 ?k4; (case k1 => assumption); (case k0 => assumption); (case k2 => assumption); (case kz => assumption); (case k3 => with_unfolding_all rfl); (case k4 => intro _; with_unfolding_all rfl); k_whole); intro zt9 ztk9)
  trivial
theorem due_elt {P Z D ht wd f0 f1 cr n1 n2 : Nat} {l : List Nat} {oP : Obj} {t1 t2 t3 t4 t5 t6 : Tok} (h1 : ht ≤ 4) (w1 : wd ≤ 4) (hf0 : f0 < 2) (hf1 : f1 < 2) (hcr : cr < 2) (hl : ∀ c ∈ l, c < 256) (hlen : l.length = ht * wd)
    (d2 : o2.data = .cell (some (.ref Z))) (d3 : o3.data = .cell (some (.bytes (bytesOf l) t5))) (d5 : o5.data = .cell (some (.ref D))) (d6 : o6.data = .cell (some (.int (cr : Nat) t6)))
    (B : Below A₀ base outer h₀) (X : (K w.params).In h₀) (T : Top q loose mean mg mb h₀)
    (hd : dp + 12 < recursionLimit) (hu : un + 100 < cLine) :
    Elt2 pw w (ktrTop dp un gd "law" flaw_s L fa ccd (lawCl c1 c2 c3 c4 c5 c6 c7) outer) h₀ L m (envX "law" flaw_s L fa ccd (lawCl c1 c2 c3 c4 c5 c6 c7)) duE "y" "x" duS (duCl c1 c2 c3 c4 c5 c6 c7) s
      [(D, W.listOf #[.int (f0 : Nat) t3, .int (f1 : Nat) t4] n2), (P, oP), (Z, W.listOf #[.int (ht : Nat) t1, .int (wd : Nat) t2] n1), (c7, o7), (c6, o6), (c5, o5), (c4, o4), (c3, o3), (c2, o2), (c1, o1)] (fun y x => (l.getD (plcN ht wd f0 f1 cr y x) 0 : Nat)) (if cr = 0 then ht else wd) (if cr = 0 then wd else ht) := by
  intro i j C oC m₂ h tk rest u1 u2 E' hi hj hC mx my F N
  have hk : plcN ht wd f0 f1 cr i j < l.length := by rw [hlen]; exact plcN_lt hcr hi hj
  have hz2 : l.length ≤ 1000 := by
    have := Nat.mul_le_mul h1 w1
    omega
  dsimp only [List.cons_append, List.nil_append] at N ⊢
  unfold duE duS duCl
  k_steps
  all_goals first | rfl | k_asm
theorem due_rb {P Z D wi : Nat} {oD oP oZ : Obj} {t7 : Tok} (d7 : o7.data = .cell (some (.int (wi : Nat) t7)))
    (B : Below A₀ base outer h₀) (X : (K w.params).In h₀) (T : Top q loose mean mg mb h₀)
    (hd : dp + 12 < recursionLimit) (hu : un + 100 < cLine) :
    Rng2 pw w (ktrTop dp un gd "law" flaw_s L fa ccd (lawCl c1 c2 c3 c4 c5 c6 c7) outer) h₀ L m (envX "law" flaw_s L fa ccd (lawCl c1 c2 c3 c4 c5 c6 c7)) duR1 duS (duCl c1 c2 c3 c4 c5 c6 c7) s [(D, oD), (P, oP), (Z, oZ), (c7, o7), (c6, o6), (c5, o5), (c4, o4), (c3, o3), (c2, o2), (c1, o1)] wi := by
  intro C oC m₂ h tk rest E' hC F N
  dsimp only [List.cons_append, List.nil_append] at N ⊢
  unfold duR1 duS duCl
  k_steps
  all_goals exact ⟨_, _, _, _, _, _, rfl, rfl, by assumption, by k_asm, by k_asm⟩
theorem due_ra {P Z D hi : Nat} {oD oP oZ : Obj} {t7 : Tok}
    (B : Below A₀ base outer h₀) (F : Fr h₀ L s.heap (fun y => if y = "high" then some (.int (hi : Nat) t7) else m y)) (X : (K w.params).In h₀) (N : News h₀ L s.heap [(D, oD), (P, oP), (Z, oZ), (c7, o7), (c6, o6), (c5, o5), (c4, o4), (c3, o3), (c2, o2), (c1, o1)]) (T : Top q loose mean mg mb h₀)
    (hd : dp + 12 < recursionLimit) (hu : un + 100 < cLine) :
    wpAny (model pw w) (ktrTop dp un gd "law" flaw_s L fa ccd (lawCl c1 c2 c3 c4 c5 c6 c7) outer) (eval duR0 (envX "law" flaw_s L fa ccd (lawCl c1 c2 c3 c4 c5 c6 c7))) (RangeIs h₀ L (fun y => if y = "high" then some (.int (hi : Nat) t7) else m y) [(D, oD), (P, oP), (Z, oZ), (c7, o7), (c6, o6), (c5, o5), (c4, o4), (c3, o3), (c2, o2), (c1, o1)] (hi : Int) 1 s) E s := by
  unfold duR0
  k_steps
  all_goals exact ⟨_, _, _, _, _, _, rfl, rfl, by assumption, by k_asm, by k_asm⟩
end
end Mine
end
section
open Lean Meta Elab PySem PySem.W PyProof.Rows
set_option maxRecDepth 100000
set_option maxHeartbeats 0
set_option Elab.async false
set_option linter.unusedVariables false
namespace Mine
theorem fillBV : (fun (_ : Params → Frag) (_ : OpenLaw) => True) K rw1 := by k_fill; trivial
theorem kw70 : True := by
  k_with_none
  k_with "c_enter" => (refine' code_def ?k1 ?k2 ?k3 ?k4 ?k5 ?kA ?kF ?kK ?k6 ?k7 ?zk8 ?zk9 ?kB ?_ ?c2 ?c3 ?c4 ?c5; (case kA => exact rfl); (case kF => exact rfl); (case kK => assumption); (case k1 => k_asm); (case k2 => k_asm); (case k3 => k_asm); (case k4 => k_asm); (case k5 => k_asm); (case k6 => k_is); (case k7 => k_is); (case zk8 => ktr_room); (case zk9 => first | exact BindsTo.of_eq rfl | exact binds_K (by k_in) rfl (by k_is) rfl rfl rfl | fail "c_enter: the arguments"); (case c5 => decide); (case kB => exact locs rfl); (case c2 => exact rfl); (case c3 => exact rfl); (case c4 => exact rfl); k_whole; intro zg' zL' zh' zFG' zF' zN' zB' zX' zT'; (try dsimp only); (try k_fold))
  k_with "compareOp In str str" => (k_here; (first | with_reducible refine in_ch (by with_reducible assumption) ?_ | with_reducible refine in_nil ?_ | with_reducible refine in_b (b := false) (by decide +kernel) ?_ | with_reducible refine in_b (b := true) (by decide +kernel) ?_))
  k_with "compareOp NotIn str str" => (k_here; (first | with_reducible refine notin_ch (by with_reducible assumption) ?_ | with_reducible refine notin_nil ?_))
  k_with "compareOp Eq str str" => (k_here; (first | with_reducible refine eq_b (by with_reducible assumption) ?_ | with_reducible refine eq_b (b := false) (by decide +kernel) ?_ | with_reducible refine eq_b (b := true) (by decide +kernel) ?_))
  k_with "truthy str" => (k_here; (first | with_reducible refine truthy_ch ?_ | with_reducible refine truthy_nil ?_ | with_reducible refine truthy_p (by with_reducible assumption) (by with_reducible assumption) ?_); intro zk9)
  k_with "s_enter" => (refine' code_defS ?k1 ?k2 ?k3 ?k4 ?k5 ?XB ?TB ?D ?T0 ?kA ?k6 ?k7 ?zk8 ?zk9 ?kB ?_ ?cK ?c2 ?c3 ?c4 ?c5; (case kA => exact rfl); (case k2 => k_asm); (case k1 => k_asm); (case XB => exact Gd.x (by assumption)); (case TB => exact Gd.t (by assumption)); (case D => assumption); (case T0 => exact KtsTurn.refl); (case k3 => k_asm); (case k4 => k_asm); (case k5 => k_asm); (case k6 => k_is); (case k7 => k_is); (case zk8 => ktr_room); (case zk9 => first | exact BindsTo.of_eq rfl | exact binds_K (by k_in) rfl (by k_is) rfl rfl rfl | fail "s_enter: the arguments"); (case kB => exact locs rfl); (case cK => first | exact rfl | assumption); (case c2 => exact rfl); (case c3 => exact rfl); (case c4 => exact rfl); (case c5 => decide); k_whole; intro zg' zL' zh' zFG' zF' zN' zB' zX' zT' zD'; (try dsimp only); (try k_fold))
  trivial
def dueL (l : List Nat) (ht wd f0 f1 cr : Nat) : List Nat := (List.range (if cr = 0 then ht else wd)).flatMap fun y => (List.range (if cr = 0 then wd else ht)).map fun x => l.getD (plcN ht wd f0 f1 cr y x) 0
theorem due_acc (l : List Nat) (ht wd f0 f1 cr : Nat) : acc2 (fun y x => (l.getD (plcN ht wd f0 f1 cr y x) 0 : Nat)) (if cr = 0 then wd else ht) (if cr = 0 then ht else wd) 0 = (dueL l ht wd f0 f1 cr).map (fun c : Nat => (c : Int)) := by
  unfold acc2 dueL
  simp [List.map_flatMap, List.map_map, Function.comp_def]
theorem dueL_len {l : List Nat} {ht wd f0 f1 cr : Nat} : (dueL l ht wd f0 f1 cr).length = (if cr = 0 then ht else wd) * (if cr = 0 then wd else ht) := flat_len _ _ _
theorem dueL_mem {l : List Nat} {ht wd f0 f1 cr c : Nat} (hl : ∀ c ∈ l, c < 256) (h : c ∈ dueL l ht wd f0 f1 cr) : c < 256 := by
  simp only [dueL, List.mem_flatMap, List.mem_map, List.mem_range] at h
  obtain ⟨y, _, x, _, rfl⟩ := h
  rw [List.getD_eq_getElem?_getD]
  cases e : l[plcN ht wd f0 f1 cr y x]? with
  | none => decide
  | some v => exact hl v (List.mem_of_getElem? e)
section
variable {w : World} {mean : ExcName → Option Value} {mg mb : Str → Option Value} {dp un : Nat} {gd : Option (List Code)} {outer : List Env} {A₀ : Around} {base h₀ : Heap} {L fa : Addr} {ccd : Value} {m : Str → Option Value} {s : Shared} {Q E : Value → Shared → Prop} {o1 o2 o3 o4 o5 o6 o7 : Obj} {c1 c2 c3 c4 c5 c6 c7 : Nat}
theorem due_c {P Z D ht wd f0 f1 cr n1 n2 : Nat} {l : List Nat} {oP : Obj} {t1 t2 t3 t4 t5 t6 t7 t8 : Tok} (h1 : ht ≤ 4) (w1 : wd ≤ 4) (hf0 : f0 < 2) (hf1 : f1 < 2) (hcr : cr < 2) (hl : ∀ c ∈ l, c < 256) (hlen : l.length = ht * wd)
    (d2 : o2.data = .cell (some (.ref Z))) (d3 : o3.data = .cell (some (.bytes (bytesOf l) t5))) (d5 : o5.data = .cell (some (.ref D))) (d6 : o6.data = .cell (some (.int (cr : Nat) t6))) (d7 : o7.data = .cell (some (.int ((if cr = 0 then wd else ht : Nat) : Int) t7)))
    (B : Below A₀ base outer h₀) (F : Fr h₀ L s.heap (fun y => if y = "high" then some (.int ((if cr = 0 then ht else wd : Nat) : Int) t8) else m y)) (X : (K w.params).In h₀) (N : News h₀ L s.heap [(D, W.listOf #[.int (f0 : Nat) t3, .int (f1 : Nat) t4] n2), (P, oP), (Z, W.listOf #[.int (ht : Nat) t1, .int (wd : Nat) t2] n1), (c7, o7), (c6, o6), (c5, o5), (c4, o4), (c3, o3), (c2, o2), (c1, o1)]) (T : Top q loose mean mg mb h₀)
    (hd : dp + 12 < recursionLimit) (hu : un + 100 < cLine)
    (hret : ∀ (R : Nat) h tk ys, IntsAre ys ((dueL l ht wd f0 f1 cr).map fun c : Nat => (c : Int)) → Fr h₀ L h (fun y => if y = "high" then some (.int ((if cr = 0 then ht else wd : Nat) : Int) t8) else m y) → News h₀ L h [(R, LCg.lst ys), (D, W.listOf #[.int (f0 : Nat) t3, .int (f1 : Nat) t4] n2), (P, oP), (Z, W.listOf #[.int (ht : Nat) t1, .int (wd : Nat) t2] n1), (c7, o7), (c6, o6), (c5, o5), (c4, o4), (c3, o3), (c2, o2), (c1, o1)] → Q (.ref R) { s with heap := h, toks := tk }) :
    wpAny (model pw w) (ktrTop dp un gd "law" flaw_s L fa ccd (lawCl c1 c2 c3 c4 c5 c6 c7) outer) (eval lwL10 (envX "law" flaw_s L fa ccd (lawCl c1 c2 c3 c4 c5 c6 c7))) Q E s := by
  rw [lwL10_eq]
  have b1 : (if cr = 0 then ht else wd) ≤ 100 := by split <;> omega
  have b2 : (if cr = 0 then wd else ht) ≤ 100 := by split <;> omega
  refine ListComp_two (news := [(D, W.listOf #[.int (f0 : Nat) t3, .int (f1 : Nat) t4] n2), (P, oP), (Z, W.listOf #[.int (ht : Nat) t1, .int (wd : Nat) t2] n1), (c7, o7), (c6, o6), (c5, o5), (c4, o4), (c3, o3), (c2, o2), (c1, o1)]) (f := fun y x => (l.getD (plcN ht wd f0 f1 cr y x) 0 : Nat)) (n1 := if cr = 0 then ht else wd) (n2 := if cr = 0 then wd else ht) rfl du_cl (by decide) rfl (by decide) (by rfl) (by rfl) (by decide) b1 b2 (due_ra B F X N T hd hu)
    (due_elt h1 w1 hf0 hf1 hcr hl hlen d2 d3 d5 d6 B X T hd hu) (due_rb d7 B X T hd hu) (by intro _; rfl) (by intro _ _; rfl) fun R h tk ys hys F' N' off => hret R h tk ys ?_ F' N'
  rw [← due_acc]; exact hys
end
theorem kw71 : True := by
  k_with "eval ListComp" => (k_here; (with_unfolding_all refine' due_c ?h1 ?w1 ?f0 ?f1 ?hc ?hl ?hn ?d2 ?d3 ?d5 ?d6 ?d7 ?rB ?rF ?rX ?rN ?rT ?rd ?ru ?_; (case rN => k_asm); (case d3 => assumption); (case d2 => assumption); (case d5 => assumption); (case d6 => assumption); (case d7 => assumption); (case h1 => assumption); (case w1 => assumption); (case f0 => assumption); (case f1 => assumption); (case hc => assumption); (case hl => assumption); (case hn => assumption); (case rB => k_asm); (case rF => k_asm); (case rX => k_asm); (case rT => k_asm); (case rd => ktr_room); (case ru => ktr_units); k_whole); intro zR9 zh9 ztk9 zy9 zhy9 zF9 zN9; (try dsimp only))
  k_with "call type:bytes" => (k_here; k_dflt (refine' bytes_drop ?rh ?rF ?rN ?rs ?rc ?rn ?_; (case rh => rfl); (case rN => k_asm); (case rF => k_asm); (case rs => assumption); (case rc => assumption); (case rn => assumption); k_whole); intro zh9 zt9 zk9 zF9 zN9; (try dsimp only))
  trivial
section
variable {w : World} {mean : ExcName → Option Value} {mg mb : Str → Option Value} {dp un : Nat} {gd : Option (List Code)} {outer : List Env} {A₀ : Around} {base h₀ : Heap} {L fa : Addr} {ccd : Value} {m : Str → Option Value} {s : Shared} {Q : Flow → Shared → Prop} {E : Value → Shared → Prop} {o1 o2 o3 o4 o5 o6 o7 : Obj} {c1 c2 c3 c4 c5 c6 c7 : Nat}
theorem law_10 {P Z D ht wd f0 f1 cr n1 n2 : Nat} {l : List Nat} {oP : Obj} {t1 t2 t3 t4 t5 t6 t7 t8 : Tok} (h1 : ht ≤ 4) (w1 : wd ≤ 4) (hf0 : f0 < 2) (hf1 : f1 < 2) (hcr : cr < 2) (hl : ∀ c ∈ l, c < 256) (hlen : l.length = ht * wd)
    (d2 : o2.data = .cell (some (.ref Z))) (d3 : o3.data = .cell (some (.bytes (bytesOf l) t5))) (d5 : o5.data = .cell (some (.ref D))) (d6 : o6.data = .cell (some (.int (cr : Nat) t6))) (d7 : o7.data = .cell (some (.int ((if cr = 0 then wd else ht : Nat) : Int) t7)))
    (B : Below A₀ base outer h₀) (F : Fr h₀ L s.heap (fun y => if y = "high" then some (.int ((if cr = 0 then ht else wd : Nat) : Int) t8) else m y)) (X : (K w.params).In h₀) (N : News h₀ L s.heap [(D, W.listOf #[.int (f0 : Nat) t3, .int (f1 : Nat) t4] n2), (P, oP), (Z, W.listOf #[.int (ht : Nat) t1, .int (wd : Nat) t2] n1), (c7, o7), (c6, o6), (c5, o5), (c4, o4), (c3, o3), (c2, o2), (c1, o1)]) (T : Top q loose mean mg mb h₀)
    (hd : dp + 12 < recursionLimit) (hu : un + 100 < cLine)
    (hret : ∀ h' tk' t9, Fr h₀ L h' (fun y => if y = "due" then some (.bytes (bytesOf (dueL l ht wd f0 f1 cr)) t9) else if y = "high" then some (.int ((if cr = 0 then ht else wd : Nat) : Int) t8) else m y) → News h₀ L h' [(D, W.listOf #[.int (f0 : Nat) t3, .int (f1 : Nat) t4] n2), (P, oP), (Z, W.listOf #[.int (ht : Nat) t1, .int (wd : Nat) t2] n1), (c7, o7), (c6, o6), (c5, o5), (c4, o4), (c3, o3), (c2, o2), (c1, o1)] → Q .next { s with heap := h', toks := tk' }) :
    wpAny (model pw w) (ktrTop dp un gd "law" flaw_s L fa ccd (lawCl c1 c2 c3 c4 c5 c6 c7) outer) (exec lw10 (envX "law" flaw_s L fa ccd (lawCl c1 c2 c3 c4 c5 c6 c7))) Q E s := by
  have hm : ∀ c ∈ dueL l ht wd f0 f1 cr, c < 256 := fun c hc => dueL_mem hl hc
  have hz : (dueL l ht wd f0 f1 cr).length ≤ 1000 := by
    rw [dueL_len]
    have b1 : (if cr = 0 then ht else wd) ≤ 4 := by split <;> omega
    have b2 : (if cr = 0 then wd else ht) ≤ 4 := by split <;> omega
    have := Nat.mul_le_mul b1 b2
    omega
  unfold lw10
  k_steps
  exact hret _ _ _ (by assumption) (by assumption)
end
end Mine
end
section
open Lean Meta Elab PySem PySem.W PyProof.Rows PySem.Calls
set_option maxRecDepth 100000
set_option maxHeartbeats 0
set_option Elab.async false
set_option linter.unusedVariables false
namespace Mine
theorem fillBW : (fun (_ : Params → Frag) (_ : OpenLaw) => True) K rw1 := by k_fill; trivial
theorem kw72 : True := by
  k_with_none
  k_with "c_enter" => (refine' code_def ?k1 ?k2 ?k3 ?k4 ?k5 ?kA ?kF ?kK ?k6 ?k7 ?zk8 ?zk9 ?kB ?_ ?c2 ?c3 ?c4 ?c5; (case kA => exact rfl); (case kF => exact rfl); (case kK => assumption); (case k1 => k_asm); (case k2 => k_asm); (case k3 => k_asm); (case k4 => k_asm); (case k5 => k_asm); (case k6 => k_is); (case k7 => k_is); (case zk8 => ktr_room); (case zk9 => first | exact BindsTo.of_eq rfl | exact binds_K (by k_in) rfl (by k_is) rfl rfl rfl | fail "c_enter: the arguments"); (case c5 => decide); (case kB => exact locs rfl); (case c2 => exact rfl); (case c3 => exact rfl); (case c4 => exact rfl); k_whole; intro zg' zL' zh' zFG' zF' zN' zB' zX' zT'; (try dsimp only); (try k_fold))
  k_with "compareOp In str str" => (k_here; (first | with_reducible refine in_ch (by with_reducible assumption) ?_ | with_reducible refine in_nil ?_ | with_reducible refine in_b (b := false) (by decide +kernel) ?_ | with_reducible refine in_b (b := true) (by decide +kernel) ?_))
  k_with "compareOp NotIn str str" => (k_here; (first | with_reducible refine notin_ch (by with_reducible assumption) ?_ | with_reducible refine notin_nil ?_))
  k_with "compareOp Eq str str" => (k_here; (first | with_reducible refine eq_b (by with_reducible assumption) ?_ | with_reducible refine eq_b (b := false) (by decide +kernel) ?_ | with_reducible refine eq_b (b := true) (by decide +kernel) ?_))
  k_with "truthy str" => (k_here; (first | with_reducible refine truthy_ch ?_ | with_reducible refine truthy_nil ?_ | with_reducible refine truthy_p (by with_reducible assumption) (by with_reducible assumption) ?_); intro zk9)
  k_with "s_enter" => (refine' code_defS ?k1 ?k2 ?k3 ?k4 ?k5 ?XB ?TB ?D ?T0 ?kA ?k6 ?k7 ?zk8 ?zk9 ?kB ?_ ?cK ?c2 ?c3 ?c4 ?c5; (case kA => exact rfl); (case k2 => k_asm); (case k1 => k_asm); (case XB => exact Gd.x (by assumption)); (case TB => exact Gd.t (by assumption)); (case D => assumption); (case T0 => exact KtsTurn.refl); (case k3 => k_asm); (case k4 => k_asm); (case k5 => k_asm); (case k6 => k_is); (case k7 => k_is); (case zk8 => ktr_room); (case zk9 => first | exact BindsTo.of_eq rfl | exact binds_K (by k_in) rfl (by k_is) rfl rfl rfl | fail "s_enter: the arguments"); (case kB => exact locs rfl); (case cK => first | exact rfl | assumption); (case c2 => exact rfl); (case c3 => exact rfl); (case c4 => exact rfl); (case c5 => decide); k_whole; intro zg' zL' zh' zFG' zF' zN' zB' zX' zT' zD'; (try dsimp only); (try k_fold))
  trivial
section
open PySem.SeqAt
theorem EqAt_bytes {A : Around} {s : Shared} (b : Array UInt8) (t u : Tok) : EqAt A s (.bytes b t) (.bytes b u) true := fun prog w E Q h => by
  unfold eqBool
  refine wpAny_holding ?_
  refine wpAny_ite_split (fun hab => ?_) (fun _ => ?_)
  · exact wpAny_bind (wpAny_rule (wpAny_pure h))
  · refine wpAny_bind ?_
    show wpAny _ _ (compareOp .Eq (.bytes b t) (.bytes b u)) _ _ _
    refine eq_bytes ?_
    refine wpAny_truthy_bool ?_
    simpa using h
theorem pics_at {A : Around} {s : Shared} {b : Array UInt8} {n : Int} {t u t' u' : Tok} : ∀ j (h1 : j < (#[.bytes b t, .int n t'] : Array Value).size) (h2 : j < (#[.bytes b u, .int n u'] : Array Value).size), EqAt A s (#[Value.bytes b t, .int n t'])[j] (#[Value.bytes b u, .int n u'])[j] true := by
  intro j h1 h2
  have hj : j = 0 ∨ j = 1 := by simp at h1; omega
  rcases hj with rfl | rfl
  · exact EqAt_bytes b t u
  · have := EqAt.int_int (A := A) (s := s) n t' n u'
    simpa using this
section
variable {prog : Program} {w : World} {A : Around} {E : Value → Shared → Prop} {s : Shared} {h₀ : Heap} {L a b : Addr} {news : List (Addr × Obj)} {x : Array UInt8} {n : Int} {t u t' u' : Tok} {Q : Value → Shared → Prop}
theorem ne_pics (N : News h₀ L s.heap news) (ha : (a, ({ cls := .type "tuple", data := .seq #[.bytes x t, .int n t'] } : Obj)) ∈ news) (hb : (b, ({ cls := .type "tuple", data := .seq #[.bytes x u, .int n u'] } : Obj)) ∈ news) (hu : A.units < cLine) (h : Q (.bool false) s) : wpAny (model prog w) A (compareOp .NotEq (.ref a) (.ref b)) Q E s :=
  RcNeAt.tuples (e := fun _ => true) ⟨_, (N _ ha).1, rfl, _, rfl⟩ ⟨_, (N _ hb).1, rfl, _, rfl⟩ hu pics_at prog w E Q h
theorem eq_pics (N : News h₀ L s.heap news) (ha : (a, ({ cls := .type "tuple", data := .seq #[.bytes x t, .int n t'] } : Obj)) ∈ news) (hb : (b, ({ cls := .type "tuple", data := .seq #[.bytes x u, .int n u'] } : Obj)) ∈ news) (hu : A.units < cLine) (h : Q (.bool true) s) : wpAny (model prog w) A (compareOp .Eq (.ref a) (.ref b)) Q E s :=
  RcAt.tuples (e := fun _ => true) ⟨_, (N _ ha).1, rfl, _, rfl⟩ ⟨_, (N _ hb).1, rfl, _, rfl⟩ hu pics_at prog w E Q h
end
end
theorem kw73 : True := by
  k_with "compareOp NotEq ref ref" => (k_here; (with_unfolding_all refine' ne_pics ?rN ?ra ?rb ?ru ?_; (case rN => k_asm); (case rb => exact List.mem_cons_self); (case ra => exact List.mem_cons_of_mem _ List.mem_cons_self); (case ru => ktr_units); k_whole))
  trivial
section
variable {w : World} {mean : ExcName → Option Value} {mg mb : Str → Option Value} {dp un : Nat} {gd : Option (List Code)} {outer : List Env} {A₀ : Around} {base h₀ : Heap} {L fa : Addr} {ccd : Value} {m : Str → Option Value} {s : Shared} {Q : Flow → Shared → Prop} {E : Value → Shared → Prop} {o1 o2 o3 o4 o5 o6 o7 : Obj} {c1 c2 c3 c4 c5 c6 c7 : Nat}
theorem law_11 {P Z wi : Nat} {dl : List Nat} {oZ : Obj} {v8 : Value} {t5 t6 t7 t9 : Tok}
    (d7 : o7.data = .cell (some (.int (wi : Nat) t7)))
    (B : Below A₀ base outer h₀) (F : Fr h₀ L s.heap (fun y => if y = "due" then some (.bytes (bytesOf dl) t9) else if y = "high" then some v8 else if y = "told" then some (.ref P) else m y)) (X : (K w.params).In h₀) (N : News h₀ L s.heap [(P, pic dl wi t5 t6), (Z, oZ), (c7, o7), (c6, o6), (c5, o5), (c4, o4), (c3, o3), (c2, o2), (c1, o1)]) (T : Top q loose mean mg mb h₀)
    (hd : dp + 12 < recursionLimit) (hu : un + 100 < cLine)
    (hret : ∀ h' tk', Fr h₀ L h' (fun y => if y = "due" then some (.bytes (bytesOf dl) t9) else if y = "high" then some v8 else if y = "told" then some (.ref P) else m y) → News h₀ L h' [(P, pic dl wi t5 t6), (Z, oZ), (c7, o7), (c6, o6), (c5, o5), (c4, o4), (c3, o3), (c2, o2), (c1, o1)] → Q .next { s with heap := h', toks := tk' }) :
    wpAny (model pw w) (ktrTop dp un gd "law" flaw_s L fa ccd (lawCl c1 c2 c3 c4 c5 c6 c7) outer) (exec lw11 (envX "law" flaw_s L fa ccd (lawCl c1 c2 c3 c4 c5 c6 c7))) Q E s := by
  unfold lw11
  k_steps
  rename News h₀ L _ _ => N9
  rename Fr h₀ L _ _ => F9
  exact hret _ _ F9 (news_tail N9)
end
end Mine
end
section
open Lean Meta Elab PySem PySem.W PyProof.Rows PySem.Calls
set_option maxRecDepth 100000
set_option maxHeartbeats 0
set_option Elab.async false
set_option linter.unusedVariables false
namespace Mine
/-- a list as the source of a comprehension whose element runs in wpG and whose value is stored in the name y -/
def SrcG (prog : Program) (w : World) (A : Around) (h₀ : Heap) (L : Addr) (m : Str → Option Value) (env : Env) (elt : PySem.Expr) (x : Str) (scope : Scope) (cl : List (Str × Addr)) (news : List (Addr × Obj)) (y : Str) (Q : Flow → Shared → Prop) (xv : Value) (s₁ : Shared) : Prop :=
  ∃ (S : Nat) (its : List Value) (k : Nat) (R : Nat → List Value → Prop), xv = .ref S ∧ its.length ≤ 1000 ∧ Fr h₀ L s₁.heap m ∧ News h₀ L s₁.heap ((S, W.listOf its.toArray k) :: news) ∧ R 0 [] ∧
    (∀ i v (C : Nat) (oC : Obj) m₂ rest ys h tk, i < its.length → its[i]? = some v → R i ys → LCg.NsObj oC m₂ → m₂ x = some v → Fr h₀ L h m → News h₀ L h ((C, oC) :: (news ++ rest)) →
      wpG (model prog w) A (eval elt (compEnvC scope cl C env)) (fun y s' => R (i + 1) (ys ++ [y]) ∧ ∃ h' tk', s' = { s₁ with heap := h', toks := tk' } ∧ Fr h₀ L h' m ∧ News h₀ L h' ((C, oC) :: (news ++ rest))) (fun _ _ => False) { s₁ with heap := h, toks := tk }) ∧
    (∀ ys (D : Nat) h tk, R its.length ys → (∀ p ∈ news, p.1 < D) → Fr h₀ L h (fun z => if z = y then some (.ref D) else m z) → News h₀ L h ((D, LCg.lst ys) :: news) → Q .next { s₁ with heap := h, toks := tk })
section
variable {prog : Program} {w : World} {A : Around} {E : Value → Shared → Prop} {s : Shared} {h₀ : Heap} {L : Addr} {m : Str → Option Value} {env : Env} {scope : Scope} {cl : List (Str × Addr)}
theorem ListComp_G {elt iter : PySem.Expr} {x y : Str} {px py : Pos} {pos spos : Pos} {Q : Flow → Shared → Prop} {news : List (Addr × Obj)}
    (hh : A.handled = none) (hclos : closureFor scope env = pure cl) (hcell : ∀ y ∈ scope.names, y.2 ≠ .cell) (hkind : scope.kind = .function) (hnames : ∀ y ∈ scope.names, y.2 = .local → scope.names.lookup y.1 = some .local)
    (hx : scope.names.lookup x = some .local) (hLe : env.locals = L) (hy : env.kindOf y = some .local) (hp : (env.scope.kind == .class || (env.scope.kind == .module && env.locals != env.globals)) = false)
    (hsw : swapsWith (.ListComp elt [⟨.Name x px, iter, [], 0⟩] scope pos) (some (.Name y py)) spos.line env = pure true)
    (h : wpG (model prog w) A (eval iter env) (SrcG prog w A h₀ L m env elt x scope cl news y Q) (fun _ _ => False) s)
    (hf0 : ∀ x, foldedSetIterable iter env x = pure x) :
    wpG (model prog w) A (exec (.Assign [.Name y py] (.ListComp elt [⟨.Name x px, iter, [], 0⟩] scope pos) spos) env) Q E s := by
  rw [exec_Assign_Name_used _ _ _ _ hsw]
  refine wpG_never ?_
  refine wpG_step (wpAny_standAt (wpG_bind ?_))
  show wpG _ A (do let _ ← comprehension (.ListComp elt [⟨.Name x px, iter, [], 0⟩] scope pos) scope env _ (newList []) false (eval iter env) (some (assign (.Name y py) env))) _ _ s
  refine wpG_bind (wpG_mono (wpG_comprehension_use (Q := fun _ s' => Q .next s') rfl hf0 hclos hkind hnames (wpG_mono h (fun xv s₁ h₁ => ?_) fun _ _ e => e)) (fun _ s' hq => wpG_pure (wpG_pure hq)) fun _ _ e => e)
  obtain ⟨S, its, k0, R, rfl, hits, F₁, N₁, R0, turn, fin⟩ := h₁
  have hl : s₁.heap.IsList S its.toArray := ⟨_, (N₁ _ List.mem_cons_self).1, rfl, _, rfl⟩
  have hSlt : @LT.lt Nat _ S s₁.heap.objs.size := Heap.lt_size (N₁ _ List.mem_cons_self).1
  refine wpAny_pyIter_list hl ?_
  generalize hG : s₁.heap.push { cls := .type "list_iterator", data := .fields #[.ref S, .int 0 0] } = g
  have up : ∀ b o, s₁.heap.get? b = some o → g.get? b = some o := fun b o e => by rw [← hG]; exact Heap.get?_push_of_some _ e
  have hgz : g.objs.size = s₁.heap.objs.size + 1 := by rw [← hG, Heap.size_push]
  have hI : g.IsListIter s₁.heap.objs.size S 0 := by rw [← hG]; exact ⟨_, Heap.get?_push_size _ rfl, rfl, rfl⟩
  have F₂ : Fr h₀ L g m := F₁.keeps up
  have N₂ : News h₀ L g ((S, W.listOf its.toArray k0) :: news) := N₁.grown up
  have offI : ∀ p ∈ (S, W.listOf its.toArray k0) :: news, p.1 ≠ s₁.heap.objs.size := fun p hp => Nat.ne_of_lt (Heap.lt_size (N₁ p hp).1)
  have hLI : L ≠ s₁.heap.objs.size := Nat.ne_of_lt F₁.ns.lt
  have h0I : h₀.get? s₁.heap.objs.size = none := next_is_new F₁
  generalize hIe : s₁.heap.objs.size = I at *
  refine wpAny_newObj_type (wpAny_newFunctionEnv hcell (by intro y hy; simp at hy) (fun h₁ hns₁ hsb₁ => ?_) hkind)
  dsimp only at hns₁ hsb₁ ⊢
  generalize hH2 : g.push { cls := .type "list", dict := none, data := .seq ([] : List Value).toArray } = H2 at hns₁ hsb₁ ⊢
  have hC : H2.objs.size = g.objs.size + 1 := by rw [← hH2, Heap.size_push]
  have hDC : @Ne Nat g.objs.size H2.objs.size := by rw [hC]; omega
  have hlt : ∀ b o, g.get? b = some o → (@Ne Nat b H2.objs.size) ∧ (@Ne Nat b g.objs.size) := fun b o e => by
    have q : @LT.lt Nat _ b g.objs.size := Heap.lt_size e
    rw [hC]
    refine ⟨?_, ?_⟩ <;> omega
  have old : ∀ b o, g.get? b = some o → h₁.get? b = some o := fun b o e => hsb₁.extBut b o (hlt b o e).1 (Heap.get?_push_of_some _ (hH2 ▸ Heap.get?_push_of_some _ e))
  have hacc : h₁.get? g.objs.size = some (LCg.lst []) := hsb₁.extBut _ _ hDC (Heap.get?_push_of_some _ (hH2 ▸ Heap.get?_push_size _ rfl))
  obtain ⟨oC, heC, hoC⟩ := LCg.ns_obj hns₁
  obtain ⟨oL, heL⟩ : ∃ o, g.get? L = some o := by obtain ⟨o, _, _, e, _⟩ := F₂.ns; exact ⟨o, e⟩
  have fresh₀ : ∀ a, g.objs.size ≤ a → h₀.get? a = none := fun a ha => by
    cases e : h₀.get? a with
    | none => rfl
    | some o' => exact absurd (Heap.lt_size (F₂.keep a o' e)) (Nat.not_lt.mpr ha)
  have hC₀ := fresh₀ H2.objs.size (by rw [hC]; exact Nat.le_succ _)
  have hD₀ := fresh₀ g.objs.size (Nat.le_refl _)
  have hLn := hlt L oL heL
  have hIn : (@Ne Nat I H2.objs.size) ∧ (@Ne Nat I g.objs.size) := by obtain ⟨o, e, _⟩ := hI; exact hlt I o e
  have offD : ∀ p ∈ (S, W.listOf its.toArray k0) :: news, p.1 ≠ g.objs.size := fun p hp => (hlt _ _ (N₂ p hp).1).2
  have offC : ∀ p ∈ (S, W.listOf its.toArray k0) :: news, p.1 ≠ H2.objs.size := fun p hp => (hlt _ _ (N₂ p hp).1).1
  have ltD : ∀ p ∈ news, p.1 < g.objs.size := fun p hp => Heap.lt_size (N₂ p (List.mem_cons_of_mem _ hp)).1
  have WW : Walks prog w A I [I, S] [I] its.toArray.size (fun i v => its.toArray[i]? = some v) (fun i h => h.IsListIter I S i ∧ h.IsList S its.toArray) := Walks.list hh I S (offI (S, W.listOf its.toArray k0) List.mem_cons_self) its.toArray
  have hz : its.toArray.size = its.length := by simp
  have stD : ∀ {hx : Heap} {i : Nat} {hy : Heap}, (hx.IsListIter I S i ∧ hx.IsList S its.toArray) → (∀ b o, (b = I ∨ b = S) → hx.get? b = some o → hy.get? b = some o) → (hy.IsListIter I S i ∧ hy.IsList S its.toArray) := fun {hx i hy} st kp => ⟨st.1.at fun o e => kp _ o (.inl rfl) e, st.2.at fun o e => kp _ o (.inr rfl) e⟩
  have loop : ∀ s₃ : Shared, s₃ = ({ s₁ with heap := h₁, toks := s₁.toks + ([] : List (Str × Value)).length } : Shared) →
      codeG (model prog w) A (.compLoop (.ListComp elt [⟨.Name x px, iter, [], 0⟩] scope pos) 0 (.ref I) (.ref g.objs.size) (compEnvC scope cl H2.objs.size env)) (fun r s' => match r with | .ok _ => wpAny (model prog w) A (assign (.Name y py) env (.ref g.objs.size)) (fun _ s'' => ∃ m, s''.heap.Ns H2.objs.size m ∧ ∀ h', Heap.SameBut H2.objs.size s''.heap h' → Q .next { s'' with heap := h' }) (fun _ _ => False) s' | .error _ => False) s₃ := by
    rintro s₃ rfl
    refine codeG_compLoop (fun k s' => ∃ i h' tk' oC' m' ys', s' = { s₁ with heap := h', toks := tk' } ∧ i ≤ its.length ∧ k = its.length + 1 - i ∧ (h'.IsListIter I S i ∧ h'.IsList S its.toArray) ∧ LCg.NsObj oC' m' ∧ R i ys' ∧ ys'.length = i ∧ Fr h₀ L h' m ∧ News h₀ L h' ((H2.objs.size, oC') :: (g.objs.size, LCg.lst ys') :: (S, W.listOf its.toArray k0) :: news))
      ?_ (its.length + 1) ⟨0, h₁, _, oC, _, [], rfl, by omega, rfl, stD ⟨hI, ⟨_, (N₂ _ List.mem_cons_self).1, rfl, _, rfl⟩⟩ (fun b o _ e => old b o e), hoC, R0, rfl, F₂.keeps old, fun p hp => ?_⟩ (by intro _; rfl)
    · rintro k s' ⟨i, h', tk', oC', m', ys', rfl, hi, rfl, hst, hC', hR, hyl, F', N'⟩
      have offI3 : ∀ p ∈ (H2.objs.size, oC') :: (g.objs.size, LCg.lst ys') :: (S, W.listOf its.toArray k0) :: news, p.1 ≠ I := fun p hp => by
        rcases List.mem_cons.mp hp with rfl | hp
        · exact Ne.symm hIn.1
        · rcases List.mem_cons.mp hp with rfl | hp
          · exact Ne.symm hIn.2
          · exact offI p hp
      by_cases hin : i < its.length
      · refine WW.item i _ _ _ (by rw [hz]; exact hin) hst fun v h₂ tk₂ hv hst₂ hk₂ => ?_
        rw [List.getElem?_toArray] at hv
        obtain ⟨⟨oI, eI, _⟩, _⟩ := id hst₂
        refine set_nm (I := I) (oI := oI) hx hkind hC' F' N' hk₂ eI offI3 hLI h0I (fun p hp => by
          rcases List.mem_cons.mp hp with rfl | hp
          · exact hDC
          · exact offC p hp) fun oC₃ h₃ tk₃ hC₃ F₃ N₃ hI₃ => ?_
        have Nin : News h₀ L h₃ ((H2.objs.size, oC₃) :: (news ++ [(g.objs.size, LCg.lst ys'), (S, W.listOf its.toArray k0), (I, oI)])) := by
          intro p hp
          simp only [List.mem_cons, List.mem_append, List.not_mem_nil, or_false] at hp
          rcases hp with rfl | hp | rfl | rfl | rfl
          · exact N₃ _ (by simp)
          · exact N₃ _ (by simp [hp])
          · exact N₃ _ (by simp)
          · exact N₃ _ (by simp)
          · exact ⟨hI₃, Ne.symm hLI, h0I⟩
        refine wpG_mono (turn i v H2.objs.size oC₃ _ _ ys' h₃ tk₃ hin hv hR hC₃ (if_pos rfl) F₃ Nin) (fun y s₄ hq => ?_) fun _ _ e => e
        obtain ⟨hR', h₄, tk₄, rfl, F₄, N₄⟩ := hq
        have zD := N₄ (g.objs.size, LCg.lst ys') (by simp)
        have zI := (N₄ (I, oI) (by simp)).1
        have zC := N₄ (H2.objs.size, oC₃) (by simp)
        have zS := N₄ (S, W.listOf its.toArray k0) (by simp)
        refine append_at (hsz := by show ys'.toArray.size ≤ sizeLine; rw [List.size_toArray, sizeLine_eq]; omega) zD.1 fun h₅ hs₅ hD₅ => ?_
        refine ⟨its.length + 1 - (i + 1), by omega, i + 1, h₅, tk₄, oC₃, _, ys' ++ [y], rfl, hin, rfl, stD hst₂ (fun b o hb e => ?_), hC₃, hR', by simp [hyl], F₄.change hs₅ zD.2.1 zD.2.2, fun q hq => ?_⟩
        · rcases hb with rfl | rfl
          · rw [eI] at e; cases e
            exact hs₅.extBut _ _ hIn.2 zI
          · obtain ⟨_, ⟨oS, eS, cS, nS, dS⟩⟩ := hst₂
            have q1 : h₂.get? b = some (W.listOf its.toArray k0) := hk₂ _ _ (by simpa using offI (b, W.listOf its.toArray k0) List.mem_cons_self) (N' (b, W.listOf its.toArray k0) (by simp)).1
            rw [q1] at e
            cases e
            exact hs₅.extBut _ _ (offD (b, W.listOf its.toArray k0) List.mem_cons_self) zS.1
        · simp only [List.mem_cons] at hq
          rcases hq with rfl | rfl | rfl | hq
          · exact ⟨hs₅.extBut _ _ (Ne.symm hDC) zC.1, zC.2⟩
          · exact ⟨hD₅.trans (congrArg some (LCg.lst_snoc ys' y)), zD.2⟩
          · exact ⟨hs₅.extBut _ _ (offD (S, W.listOf its.toArray k0) List.mem_cons_self) zS.1, zS.2⟩
          · have z := N₄ q (by simp [hq])
            exact ⟨hs₅.extBut _ _ (offD q (List.mem_cons_of_mem _ hq)) z.1, z.2⟩
      · obtain rfl : i = its.length := by omega
        refine WW.done _ _ _ (by rw [hz]; exact hst) fun h₂ tk₂ hk₂ => ?_
        have F₄ := LCg.fr_but F' hk₂ hLI h0I
        have N₄ := LCg.news_but N' hk₂ offI3
        have nsL : h₂.Ns env.locals m := hLe ▸ F₄.ns
        refine wpAny_assign_Name (wpAny_storeName_local hy nsL (fun h₆ hn₆ hs₆ => ?_) hp)
        rw [hLe] at hn₆ hs₆
        have F₅ := F₄.set hn₆ hs₆
        have N₅ := N₄.set hs₆
        refine ⟨m', (hC'.ns (N₅ _ List.mem_cons_self).1), fun h₅ hs₅ => fin ys' g.objs.size h₅ _ hR ltD (F₅.change hs₅ (Ne.symm hLn.1) hC₀) (fun p hp => ?_)⟩
        have z := N₅ p (by rcases List.mem_cons.mp hp with h | h <;> simp [h])
        refine ⟨hs₅.extBut _ _ ?_ z.1, z.2⟩
        rcases List.mem_cons.mp hp with rfl | hp
        · exact hDC
        · exact offC p (List.mem_cons_of_mem _ hp)
    · simp only [List.mem_cons] at hp
      rcases hp with rfl | rfl | hp
      · exact ⟨heC, Ne.symm hLn.1, hC₀⟩
      · exact ⟨hacc, Ne.symm hLn.2, hD₀⟩
      · exact ⟨old _ _ (N₂ p (List.mem_cons.mpr hp)).1, (N₂ p (List.mem_cons.mpr hp)).2⟩
  refine codeG_compStart (loop _ rfl) (WW.self 0 _ _ _ (stD ⟨hI, ⟨_, (N₂ _ List.mem_cons_self).1, rfl, _, rfl⟩⟩ (fun b o _ e => old b o e)) (loop _ rfl))
end
end Mine
end
section
open Lean Meta Elab PySem PySem.W PyProof.Rows
set_option maxRecDepth 100000
set_option maxHeartbeats 0
set_option Elab.async false
set_option linter.unusedVariables false
namespace Mine
theorem fillBX : (fun (_ : Params → Frag) (_ : OpenLaw) => True) K rw1 := by k_fill; trivial
theorem kw74 : True := by
  k_with_none
  k_with "c_enter" => (refine' code_def ?k1 ?k2 ?k3 ?k4 ?k5 ?kA ?kF ?kK ?k6 ?k7 ?zk8 ?zk9 ?kB ?_ ?c2 ?c3 ?c4 ?c5; (case kA => exact rfl); (case kF => exact rfl); (case kK => assumption); (case k1 => k_asm); (case k2 => k_asm); (case k3 => k_asm); (case k4 => k_asm); (case k5 => k_asm); (case k6 => k_is); (case k7 => k_is); (case zk8 => ktr_room); (case zk9 => first | exact BindsTo.of_eq rfl | exact binds_K (by k_in) rfl (by k_is) rfl rfl rfl | fail "c_enter: the arguments"); (case c5 => decide); (case kB => exact locs rfl); (case c2 => exact rfl); (case c3 => exact rfl); (case c4 => exact rfl); k_whole; intro zg' zL' zh' zFG' zF' zN' zB' zX' zT'; (try dsimp only); (try k_fold))
  k_with "compareOp In str str" => (k_here; (first | with_reducible refine in_ch (by with_reducible assumption) ?_ | with_reducible refine in_nil ?_ | with_reducible refine in_b (b := false) (by decide +kernel) ?_ | with_reducible refine in_b (b := true) (by decide +kernel) ?_))
  k_with "compareOp NotIn str str" => (k_here; (first | with_reducible refine notin_ch (by with_reducible assumption) ?_ | with_reducible refine notin_nil ?_))
  k_with "compareOp Eq str str" => (k_here; (first | with_reducible refine eq_b (by with_reducible assumption) ?_ | with_reducible refine eq_b (b := false) (by decide +kernel) ?_ | with_reducible refine eq_b (b := true) (by decide +kernel) ?_))
  k_with "truthy str" => (k_here; (first | with_reducible refine truthy_ch ?_ | with_reducible refine truthy_nil ?_ | with_reducible refine truthy_p (by with_reducible assumption) (by with_reducible assumption) ?_); intro zk9)
  k_with "s_enter" => (refine' code_defS ?k1 ?k2 ?k3 ?k4 ?k5 ?XB ?TB ?D ?T0 ?kA ?k6 ?k7 ?zk8 ?zk9 ?kB ?_ ?cK ?c2 ?c3 ?c4 ?c5; (case kA => exact rfl); (case k2 => k_asm); (case k1 => k_asm); (case XB => exact Gd.x (by assumption)); (case TB => exact Gd.t (by assumption)); (case D => assumption); (case T0 => exact KtsTurn.refl); (case k3 => k_asm); (case k4 => k_asm); (case k5 => k_asm); (case k6 => k_is); (case k7 => k_is); (case zk8 => ktr_room); (case zk9 => first | exact BindsTo.of_eq rfl | exact binds_K (by k_in) rfl (by k_is) rfl rfl rfl | fail "s_enter: the arguments"); (case kB => exact locs rfl); (case cK => first | exact rfl | assumption); (case c2 => exact rfl); (case c3 => exact rfl); (case c4 => exact rfl); (case c5 => decide); k_whole; intro zg' zL' zh' zFG' zF' zN' zB' zX' zT' zD'; (try dsimp only); (try k_fold))
  trivial
noncomputable def lwL12 : PySem.Expr := litOf (match lw12 with | .Assign _ l _ => l | _ => .Constant .none 0 default) (by conv => rhs; whnf)
noncomputable def bkE : PySem.Expr := litOf (match lwL12 with | .ListComp e _ _ _ => e | _ => .Constant .none 0 default) (by conv => rhs; whnf)
noncomputable def bkS : Scope := litOf (match lwL12 with | .ListComp _ _ sc _ => sc | _ => default) (by conv => rhs; whnf)
noncomputable def bkI : PySem.Expr := litOf (match lwL12 with | .ListComp _ (g :: _) _ _ => g.iter | _ => .Constant .none 0 default) (by conv => rhs; whnf)
noncomputable def bkA : Pos := litOf (match lwL12 with | .ListComp _ (⟨.Name _ p, _, _, _⟩ :: _) _ _ => p | _ => default) (by conv => rhs; whnf)
noncomputable def bkQ : Pos := litOf (match lwL12 with | .ListComp _ _ _ p => p | _ => default) (by conv => rhs; whnf)
theorem lwL12_eq : lwL12 = .ListComp bkE [⟨.Name "word" bkA, bkI, [], 0⟩] bkS bkQ := by with_unfolding_all rfl
theorem nm_L {k : Nat} : nm k = ⟨(nmL k).toArray⟩ := by
  unfold nm nmL
  split
  · decide +kernel
  · split <;> decide +kernel
theorem nmL_mem {k c : Nat} (h : c ∈ nmL k) : c < 256 := by
  unfold nmL at h
  split at h
  · revert c; decide
  · split at h <;> (revert c; decide)
theorem nmL_len (k : Nat) : 0 < (nmL k).length ∧ (nmL k).length ≤ 5 := by
  unfold nmL
  split
  · decide
  · split <;> decide
section
variable {w : World} {mean : ExcName → Option Value} {mg mb : Str → Option Value} {dp un : Nat} {gd : Option (List Code)} {A₀ : Around} {base h₀ : Heap} {L fa : Addr} {ccd : Value} {m : Str → Option Value} {s : Shared} {c1 c2 c3 c4 c5 c6 c7 : Nat} {o1 o2 o3 o4 o5 o6 o7 : Obj}
theorem bk_cl : closureFor bkS (envX "law" flaw_s L fa ccd (lawCl c1 c2 c3 c4 c5 c6 c7)) = pure ([] : List (Str × Addr)) := by first | rfl | with_unfolding_all rfl
theorem bk_turn {k C : Nat} {oC : Obj} {t : Tok} {m₂ : Str → Option Value} {news : List (Addr × Obj)} (hC : LCg.NsObj oC m₂) (hx : m₂ "word" = some (.str ⟨(nmL k).reverse.toArray⟩ t))
    (B : Below A₀ base [] h₀) (F : Fr h₀ L s.heap m) (X : (K w.params).In h₀) (N : News h₀ L s.heap ((C, oC) :: news)) (T : Top q loose mean mg mb h₀)
    (hd : dp + 16 < recursionLimit) (hu : un + 140 < cLine) :
    wpG (model pw w) (ktrTop dp un gd "law" flaw_s L fa ccd (lawCl c1 c2 c3 c4 c5 c6 c7) []) (eval bkE (compEnvC bkS [] C (envX "law" flaw_s L fa ccd (lawCl c1 c2 c3 c4 c5 c6 c7))))
      (fun y s' => (∃ t', y = .str (nm k) t') ∧ ∃ h' tk', s' = { s with heap := h', toks := tk' } ∧ Fr h₀ L h' m ∧ News h₀ L h' ((C, oC) :: news)) (fun _ _ => False) s := by
  show wpG _ _ (eval (.Call (.Name "_law_turned" _) _ [] _) _) _ _ _
  refine wpG_Call ?_
  unfold bkS
  k_steps
  refine wpG_callWith_K (K := K w.params) (by k_is) (wpG.of ?_)
  k_steps
  obtain ⟨l0, l5⟩ := nmL_len k
  have ez : (⟨(nmL k).reverse.toArray⟩ : Str).length = (nmL k).length := by show (nmL k).reverse.toArray.size = _; simp
  refine mirror_c (fun c hc => ?_) (by omega) (by omega) B F X N T rfl (by omega) (by omega) fun t' h' tk' F' N' => ⟨⟨t', ?_⟩, h', tk', rfl, F', N'⟩
  · have hc' : c ∈ (nmL k).reverse := by simpa using hc
    exact nmL_mem (List.mem_reverse.mp hc')
  · rw [nm_L]
    simp
theorem law_12 {Q : Flow → Shared → Prop} {E : Value → Shared → Prop} {P Z : Nat} {x : Str} {ks : List Nat} {oP oZ : Obj} {v1 v2 v3 : Value} {t : Tok} (hl : ∀ c ∈ x.cps.toList, c < 256) (hz : x.length ≤ 900) (h0 : 0 < x.length) (hn : ks.length ≤ 6)
    (hbs : ∀ c ∈ x.cps.toList, (Str.ofString "\\").cps.toList.contains c = false) (hr : reads x.cps.toList.reverse = some (ks.reverse.map fun k => (nmL k).reverse))
    (B : Below A₀ base [] h₀) (F : Fr h₀ L s.heap (fun y => if y = "due" then some v1 else if y = "high" then some v2 else if y = "told" then some v3 else if y = "line" then some (.str x t) else m y)) (X : (K w.params).In h₀) (N : News h₀ L s.heap [(P, oP), (Z, oZ), (c7, o7), (c6, o6), (c5, o5), (c4, o4), (c3, o3), (c2, o2), (c1, o1)]) (T : Top q loose mean mg mb h₀)
    (G : Gd w.params mean mg mb base) (hd : dp + 20 < recursionLimit) (hu : un + 200 < cLine)
    (hret : ∀ (D : Nat) h' tk' ys, StrsAre ys (ks.reverse.map nm) → P < D → Fr h₀ L h' (fun y => if y = "back" then some (.ref D) else if y = "due" then some v1 else if y = "high" then some v2 else if y = "told" then some v3 else if y = "line" then some (.str x t) else m y) → News h₀ L h' [(D, LCg.lst ys), (P, oP), (Z, oZ), (c7, o7), (c6, o6), (c5, o5), (c4, o4), (c3, o3), (c2, o2), (c1, o1)] → Q .next { s with heap := h', toks := tk' }) :
    wpG (model pw w) (ktrTop dp un gd "law" flaw_s L fa ccd (lawCl c1 c2 c3 c4 c5 c6 c7) []) (exec lw12 (envX "law" flaw_s L fa ccd (lawCl c1 c2 c3 c4 c5 c6 c7))) Q E s := by
  have xl : x.cps.toList.length = x.length := by rw [Array.length_toList]; rfl
  show wpG _ _ (exec (.Assign [.Name "back" _] lwL12 _) _) _ _ _
  rw [lwL12_eq]
  refine ListComp_G (news := [(P, oP), (Z, oZ), (c7, o7), (c6, o6), (c5, o5), (c4, o4), (c3, o3), (c2, o2), (c1, o1)]) (h₀ := h₀) (L := L) (m := fun y => if y = "due" then some v1 else if y = "high" then some v2 else if y = "told" then some v3 else if y = "line" then some (.str x t) else m y) rfl bk_cl (by decide) rfl (by decide) (by rfl) rfl (by rfl) (by rfl) (by first | rfl | with_unfolding_all rfl) ?_ (by intro _; rfl)
  show wpG _ _ (eval (.Call (.Name "split" _) [.Call (.Name "_law_turned" _) _ [] _] [] _) _) _ _ _
  refine wpG_Call ?_
  k_steps
  refine wpG_callWith_K (K := K w.params) (by k_is) ?_
  refine wpG_items_cons (wpG_Call ?_)
  k_steps
  refine wpG_callWith_K (K := K w.params) (by k_is) (wpG.of ?_)
  k_steps
  refine mirror_c hl hz h0 B (by k_asm) X (by k_asm) T rfl (by omega) (by omega) fun t' h' tk' F' N' => ?_
  refine wpG_items_nil ⟨X.keeps F'.keep, ?_⟩
  have hrev : (⟨x.cps.toList.reverse.toArray⟩ : Str).cps.toList = x.cps.toList.reverse := by simp
  have hsz : (⟨x.cps.toList.reverse.toArray⟩ : Str).length ≤ 1000 := by show x.cps.toList.reverse.toArray.size ≤ 1000; rw [List.size_toArray, List.length_reverse]; omega
  refine wpG.of (split0_c (ws := ks.reverse.map fun k => (nmL k).reverse) (by rw [hrev]; exact hr) B F' X N' T G (fun c hc => hbs c (by rw [hrev] at hc; exact List.mem_reverse.mp hc)) hsz (by omega) (by omega) fun S vs c' h'' tk'' hv F'' N'' => ?_)
  have ht : txts (ks.reverse.map fun k => (nmL k).reverse) = ks.reverse.map fun k => (⟨(nmL k).reverse.toArray⟩ : Str) := by simp [txts, List.map_map, Function.comp_def]
  rw [ht] at hv
  have hvl : vs.length = ks.length := by have := hv.length; simpa using this
  refine ⟨S, vs, c', fun i ys => StrsAre ys ((ks.reverse.take i).map nm), rfl, by omega, F'', N'', .nil, ?_, ?_⟩
  · intro i v C oC m₂ rest ys h tk hi hvi hR hC hx F3 N3
    obtain ⟨y, t3, hy, rfl⟩ := strs_get hv hvi
    rw [List.getElem?_map] at hy
    obtain ⟨k, hk, rfl⟩ := Option.map_eq_some_iff.mp hy
    refine wpG_mono (bk_turn (k := k) hC hx B F3 X N3 T (by omega) (by omega)) (fun y s' hq => ?_) fun _ _ e => e
    obtain ⟨⟨t4, rfl⟩, h4, tk4, rfl, F4, N4⟩ := hq
    refine ⟨?_, h4, tk4, rfl, F4, N4⟩
    dsimp only at hR ⊢
    rw [List.take_add_one, hk]
    simpa using kct_snoc (y := nm k) (t := t4) hR
  · intro ys D h tk hR lt F4 N4
    rw [hvl, List.take_of_length_le (by rw [List.length_reverse]; exact Nat.le_refl _)] at hR
    exact hret D _ _ ys hR (lt (P, oP) List.mem_cons_self) F4 N4
end
end Mine
end
section
open Lean Meta Elab PySem PySem.W PyProof.Rows
set_option maxRecDepth 100000
set_option maxHeartbeats 0
set_option Elab.async false
set_option linter.unusedVariables false
namespace Mine
theorem fillBY : (fun (_ : Params → Frag) (_ : OpenLaw) => True) K rw1 := by k_fill; trivial
theorem kw75 : True := by
  k_with_none
  k_with "c_enter" => (refine' code_def ?k1 ?k2 ?k3 ?k4 ?k5 ?kA ?kF ?kK ?k6 ?k7 ?zk8 ?zk9 ?kB ?_ ?c2 ?c3 ?c4 ?c5; (case kA => exact rfl); (case kF => exact rfl); (case kK => assumption); (case k1 => k_asm); (case k2 => k_asm); (case k3 => k_asm); (case k4 => k_asm); (case k5 => k_asm); (case k6 => k_is); (case k7 => k_is); (case zk8 => ktr_room); (case zk9 => first | exact BindsTo.of_eq rfl | exact binds_K (by k_in) rfl (by k_is) rfl rfl rfl | fail "c_enter: the arguments"); (case c5 => decide); (case kB => exact locs rfl); (case c2 => exact rfl); (case c3 => exact rfl); (case c4 => exact rfl); k_whole; intro zg' zL' zh' zFG' zF' zN' zB' zX' zT'; (try dsimp only); (try k_fold))
  k_with "compareOp In str str" => (k_here; (first | with_reducible refine in_ch (by with_reducible assumption) ?_ | with_reducible refine in_nil ?_ | with_reducible refine in_b (b := false) (by decide +kernel) ?_ | with_reducible refine in_b (b := true) (by decide +kernel) ?_))
  k_with "compareOp NotIn str str" => (k_here; (first | with_reducible refine notin_ch (by with_reducible assumption) ?_ | with_reducible refine notin_nil ?_))
  k_with "compareOp Eq str str" => (k_here; (first | with_reducible refine eq_b (by with_reducible assumption) ?_ | with_reducible refine eq_b (b := false) (by decide +kernel) ?_ | with_reducible refine eq_b (b := true) (by decide +kernel) ?_))
  k_with "truthy str" => (k_here; (first | with_reducible refine truthy_ch ?_ | with_reducible refine truthy_nil ?_ | with_reducible refine truthy_p (by with_reducible assumption) (by with_reducible assumption) ?_); intro zk9)
  k_with "s_enter" => (refine' code_defS ?k1 ?k2 ?k3 ?k4 ?k5 ?XB ?TB ?D ?T0 ?kA ?k6 ?k7 ?zk8 ?zk9 ?kB ?_ ?cK ?c2 ?c3 ?c4 ?c5; (case kA => exact rfl); (case k2 => k_asm); (case k1 => k_asm); (case XB => exact Gd.x (by assumption)); (case TB => exact Gd.t (by assumption)); (case D => assumption); (case T0 => exact KtsTurn.refl); (case k3 => k_asm); (case k4 => k_asm); (case k5 => k_asm); (case k6 => k_is); (case k7 => k_is); (case zk8 => ktr_room); (case zk9 => first | exact BindsTo.of_eq rfl | exact binds_K (by k_in) rfl (by k_is) rfl rfl rfl | fail "s_enter: the arguments"); (case kB => exact locs rfl); (case cK => first | exact rfl | assumption); (case c2 => exact rfl); (case c3 => exact rfl); (case c4 => exact rfl); (case c5 => decide); k_whole; intro zg' zL' zh' zFG' zF' zN' zB' zX' zT' zD'; (try dsimp only); (try k_fold))
  trivial
section
variable {w : World} {mean : ExcName → Option Value} {mg mb : Str → Option Value} {dp un : Nat} {gd : Option (List Code)} {A₀ : Around} {base h₀ : Heap} {L fa : Addr} {ccd : Value} {m : Str → Option Value} {s : Shared} {Q : Flow → Shared → Prop} {E : Value → Shared → Prop} {o1 o2 o3 o4 o5 o6 o7 : Obj} {c1 c2 c3 c4 c5 c6 c7 : Nat}
theorem law_13 {D P Z : Nat} {p : Pic} {ks : List Nat} {ys : List Value} {oZ : Obj} {v1 v2 : Value} {t1 t2 : Tok} (hks : ∀ k ∈ ks, k < 3) (ok : Ok p) (hy : StrsAre ys (ks.map nm))
    (B : Below A₀ base [] h₀) (F : Fr h₀ L s.heap (fun y => if y = "back" then some (.ref D) else if y = "due" then some v1 else if y = "high" then some v2 else if y = "told" then some (.ref P) else m y)) (X : (K w.params).In h₀) (N : News h₀ L s.heap [(D, LCg.lst ys), (P, pic p.l p.wd t1 t2), (Z, oZ), (c7, o7), (c6, o6), (c5, o5), (c4, o4), (c3, o3), (c2, o2), (c1, o1)]) (T : Top q loose mean mg mb h₀)
    (hd : dp + 20 < recursionLimit) (hu : un + 200 < cLine)
    (hret : ∀ (R : Nat) t1' t2' h' tk', Fr h₀ L h' (fun y => if y = "came" then some (.ref R) else if y = "back" then some (.ref D) else if y = "due" then some v1 else if y = "high" then some v2 else if y = "told" then some (.ref P) else m y) → News h₀ L h' [(R, pic (deeds p ks).l (deeds p ks).wd t1' t2'), (Z, oZ), (c7, o7), (c6, o6), (c5, o5), (c4, o4), (c3, o3), (c2, o2), (c1, o1)] → Q .next { s with heap := h', toks := tk' }) :
    wpG (model pw w) (ktrTop dp un gd "law" flaw_s L fa ccd (lawCl c1 c2 c3 c4 c5 c6 c7) []) (exec lw13 (envX "law" flaw_s L fa ccd (lawCl c1 c2 c3 c4 c5 c6 c7))) Q E s := by
  have F0 := F
  have N0 := N
  show wpG _ _ (exec (.Assign [.Name "came" _] (.Call (.Name "reduce" _) _ [] _) _) _) _ _ _
  refine wpG_Assign_Name (wpG_Call ?_)
  k_steps
  refine wpG_callWith_K (K := K w.params) (by k_is) (wpG.of ?_)
  k_steps
  have zD := N0 _ List.mem_cons_self
  have zP := N0 _ (List.mem_cons_of_mem _ List.mem_cons_self)
  refine reduce_c (p := p) hks ok zP.1 ⟨_, zD.1, rfl, _, rfl⟩ hy B F0 X T rfl (by omega) (by omega) fun P' t1' t2' h' tk' kp gP oP => ?_
  have hL : P' ≠ L := by
    rcases oP with e | lt
    · rw [e]; exact zP.2.1
    · exact Nat.ne_of_gt (Nat.lt_of_lt_of_le F0.ns.lt lt)
  have h0 : h₀.get? P' = none := by
    rcases oP with e | lt
    · rw [e]; exact zP.2.2
    · exact Heap.get?_none_of_le (Nat.le_trans F0.above (Nat.le_of_lt (Nat.lt_of_lt_of_le F0.ns.lt lt)))
  have F' := F0.keeps kp
  have N' := N0.grown kp
  refine wpAny_storeName_local (by rfl) F'.ns (fun h'' hn hs => ?_) (by rfl)
  refine hret P' t1' t2' _ _ (F'.set hn hs) fun q hq => ?_
  rcases List.mem_cons.mp hq with rfl | hq
  · exact ⟨hs.extBut _ _ hL gP, hL, h0⟩
  · exact (N'.set hs) q (List.mem_cons_of_mem _ (List.mem_cons_of_mem _ hq))
end
theorem kw76 : True := by
  k_with "compareOp Eq ref ref" => (k_here; (with_unfolding_all refine' eq_pics ?rN ?ra ?rb ?ru ?_; (case rN => k_asm); (case rb => exact List.mem_cons_self); (case ra => exact List.mem_cons_of_mem _ List.mem_cons_self); (case ru => ktr_units); k_whole))
  trivial
section
variable {w : World} {mean : ExcName → Option Value} {mg mb : Str → Option Value} {dp un : Nat} {gd : Option (List Code)} {outer : List Env} {A₀ : Around} {base h₀ : Heap} {L fa : Addr} {ccd : Value} {m : Str → Option Value} {s : Shared} {Q : Flow → Shared → Prop} {E : Value → Shared → Prop} {o1 o2 o3 o4 o5 o6 o7 : Obj} {c1 c2 c3 c4 c5 c6 c7 : Nat}
theorem law_14 {R Z ht wd : Nat} {l : List Nat} {t1 t2 t3 t5 t6 : Tok}
    (d2 : o2.data = .cell (some (.ref Z))) (d3 : o3.data = .cell (some (.bytes (bytesOf l) t3)))
    (B : Below A₀ base outer h₀) (F : Fr h₀ L s.heap (fun y => if y = "came" then some (.ref R) else m y)) (X : (K w.params).In h₀) (N : News h₀ L s.heap [(R, pic l wd t5 t6), (Z, W.listOf #[.int (ht : Nat) t1, .int (wd : Nat) t2] 0), (c7, o7), (c6, o6), (c5, o5), (c4, o4), (c3, o3), (c2, o2), (c1, o1)]) (T : Top q loose mean mg mb h₀)
    (hd : dp + 12 < recursionLimit) (hu : un + 100 < cLine)
    (hret : ∀ h' tk' m', Fr h₀ L h' m' → Q (.ret (.bool true)) { s with heap := h', toks := tk' }) :
    wpAny (model pw w) (ktrTop dp un gd "law" flaw_s L fa ccd (lawCl c1 c2 c3 c4 c5 c6 c7) outer) (exec lw14 (envX "law" flaw_s L fa ccd (lawCl c1 c2 c3 c4 c5 c6 c7))) Q E s := by
  unfold lw14
  k_steps
  exact hret _ _ _ (by assumption)
end
end Mine
end
section
open PySem PySem.W PyProof.Rows
set_option maxRecDepth 100000
set_option Elab.async false
set_option linter.unusedVariables false
namespace Mine
/-! pictures as grids -/
def gridL (H W : Nat) (g : Nat → Nat → Nat) : List Nat := (List.range H).flatMap fun y => (List.range W).map (g y)
theorem gridL_congr {H W : Nat} {g g' : Nat → Nat → Nat} (h : ∀ y x, y < H → x < W → g y x = g' y x) : gridL H W g = gridL H W g' := by
  unfold gridL
  induction H with
  | zero => rfl
  | succ n ih =>
    rw [List.range_succ, List.flatMap_append, List.flatMap_append, ih fun y x hy hx => h y x (by omega) hx]
    congr 1
    simp only [List.flatMap_cons, List.flatMap_nil, List.append_nil]
    exact List.map_congr_left fun x hx => h n x (by omega) (List.mem_range.mp hx)
theorem gridL_succ (H W : Nat) (g : Nat → Nat → Nat) : gridL (H + 1) W g = gridL H W g ++ (List.range W).map (g H) := by
  unfold gridL
  rw [List.range_succ, List.flatMap_append]
  simp
theorem gridL_len (H W : Nat) (g : Nat → Nat → Nat) : (gridL H W g).length = H * W := flat_len _ _ _
theorem gridL_get {H W : Nat} {g : Nat → Nat → Nat} {y x : Nat} (hy : y < H) (hx : x < W) : (gridL H W g).getD (y * W + x) 0 = g y x := by
  induction H with
  | zero => omega
  | succ n ih =>
    rw [gridL_succ, List.getD_eq_getElem?_getD]
    have hl := gridL_len n W g
    by_cases h : y < n
    · have h3 : (y + 1) * W ≤ n * W := Nat.mul_le_mul_right _ h
      rw [Nat.succ_mul] at h3
      rw [List.getElem?_append_left (by omega), ← List.getD_eq_getElem?_getD]
      exact ih h
    · obtain rfl : y = n := by omega
      rw [List.getElem?_append_right (by omega), hl, Nat.add_sub_cancel_left]
      simp [hx]
theorem range_grid (H W : Nat) (f : Nat → Nat) : (List.range (H * W)).map f = gridL H W fun y x => f (y * W + x) := by
  induction H with
  | zero => simp [gridL]
  | succ n ih =>
    rw [gridL_succ, ← ih, Nat.succ_mul, List.range_add, List.map_append, List.map_map]
    rfl
theorem list_grid {l : List Nat} {H W : Nat} (h : l.length = H * W) : l = gridL H W fun y x => l.getD (y * W + x) 0 := by
  refine Eq.trans ?_ (range_grid H W fun k => l.getD k 0)
  rw [← h]
  apply List.ext_getElem
  · simp
  · intro i h1 h2
    simp [List.getD_eq_getElem?_getD, h1]
theorem divW {W y x : Nat} (hx : x < W) : (y * W + x) / W = y ∧ (y * W + x) % W = x := by
  constructor
  · rw [Nat.add_comm, Nat.mul_comm, Nat.add_mul_div_left _ _ (by omega), Nat.div_eq_of_lt hx, Nat.zero_add]
  · rw [Nat.add_comm, Nat.mul_comm, Nat.add_mul_mod_self_left, Nat.mod_eq_of_lt hx]
theorem swp_grid (H W : Nat) (g : Nat → Nat → Nat) : swp (gridL H W g) W = gridL H W fun y x => g y (W - 1 - x) := by
  unfold swp
  rw [gridL_len, range_grid]
  refine gridL_congr fun y x hy hx => ?_
  obtain ⟨e1, e2⟩ := divW (y := y) hx
  rw [e1, e2]
  exact gridL_get hy (by omega)
theorem rev_grid (H W : Nat) (g : Nat → Nat → Nat) : swp (gridL H W g) (gridL H W g).length = gridL H W fun y x => g (H - 1 - y) (W - 1 - x) := by
  unfold swp
  rw [gridL_len, range_grid]
  refine gridL_congr fun y x hy hx => ?_
  have h3 : (y + 1) * W ≤ H * W := Nat.mul_le_mul_right _ hy
  rw [Nat.succ_mul] at h3
  rw [Nat.div_eq_of_lt (by omega), Nat.mod_eq_of_lt (by omega), Nat.zero_mul, Nat.zero_add]
  have e : H * W - 1 - (y * W + x) = (H - 1 - y) * W + (W - 1 - x) := by
    obtain ⟨d, rfl⟩ : ∃ d, H = y + 1 + d := ⟨H - (y + 1), by omega⟩
    have e2 : y + 1 + d - 1 - y = d := by omega
    rw [e2, Nat.add_mul, Nat.add_mul]
    omega
  rw [e]
  exact gridL_get (by omega) (by omega)
theorem trs_grid (H W : Nat) (g : Nat → Nat → Nat) : trs (gridL H W g) W H = gridL W H fun y x => g x y := by
  show gridL W H (fun x y => (gridL H W g).getD (y * W + x) 0) = _
  exact gridL_congr fun y x hy hx => gridL_get hx hy
theorem deed_deed {p : Pic} (hl : p.l.length = p.ht * p.wd) (k : Nat) : deed (deed p k) k = p := by
  obtain ⟨l, wd, ht⟩ := p
  have e := list_grid hl
  dsimp only at e
  generalize hg : (fun y x => l.getD (y * wd + x) 0) = g at e
  clear hg hl
  subst e
  unfold deed
  by_cases h0 : k = 0
  · simp only [if_pos h0, swp_grid]
    rw [gridL_congr fun y x hy hx => by rw [show wd - 1 - (wd - 1 - x) = x by omega]]
  · by_cases h1 : k = 1
    · simp only [if_neg h0, if_pos h1, rev_grid]
      rw [gridL_congr fun y x hy hx => by rw [show wd - 1 - (wd - 1 - x) = x by omega, show ht - 1 - (ht - 1 - y) = y by omega]]
    · simp only [if_neg h0, if_neg h1, trs_grid]
theorem deeds_back {p : Pic} (ok : Ok p) (ks : List Nat) : deeds (deeds p ks) ks.reverse = p := by
  unfold deeds
  induction ks generalizing p with
  | nil => rfl
  | cons k r ih =>
    rw [List.foldl_cons, List.reverse_cons, List.foldl_append, ih (ok.deed k)]
    exact deed_deed ok.len k
end Mine
end
section
open PySem PySem.W PyProof.Rows
set_option maxRecDepth 100000
set_option Elab.async false
set_option linter.unusedVariables false
namespace Mine
/-- crossed, columns about, rows about -/
def stp (st : Nat × Nat × Nat) (k : Nat) : Nat × Nat × Nat :=
  if k = 0 then (if st.1 = 0 then (st.1, 1 - st.2.1, st.2.2) else (st.1, st.2.1, 1 - st.2.2)) else if k = 1 then (st.1, 1 - st.2.1, 1 - st.2.2) else (1 - st.1, st.2.1, st.2.2)
def picOf (l : List Nat) (ht wd : Nat) (st : Nat × Nat × Nat) : Pic := ⟨dueL l ht wd st.2.1 st.2.2 st.1, if st.1 = 0 then wd else ht, if st.1 = 0 then ht else wd⟩
theorem due_grid (l : List Nat) (ht wd f0 f1 cr : Nat) : dueL l ht wd f0 f1 cr = gridL (if cr = 0 then ht else wd) (if cr = 0 then wd else ht) fun y x => l.getD (plcN ht wd f0 f1 cr y x) 0 := rfl
theorem deed_step {l : List Nat} {ht wd cr f0 f1 k : Nat} (hc : cr < 2) (h0 : f0 < 2) (h1 : f1 < 2) : deed (picOf l ht wd (cr, f0, f1)) k = picOf l ht wd (stp (cr, f0, f1) k) := by
  unfold deed stp picOf
  dsimp only
  have hc2 : cr = 0 ∨ cr = 1 := by omega
  have hf2 : f0 = 0 ∨ f0 = 1 := by omega
  have hf3 : f1 = 0 ∨ f1 = 1 := by omega
  by_cases k0 : k = 0
  · simp only [if_pos k0, due_grid, swp_grid]
    rcases hc2 with rfl | rfl
    · simp only [if_true]
      congr 1
      refine gridL_congr fun y x hy hx => ?_
      congr 1
      simp only [plcN, plcR, if_true]
      rcases hf2 with rfl | rfl <;> simp <;> omega
    · simp only [Nat.one_ne_zero, if_false]
      congr 1
      refine gridL_congr fun y x hy hx => ?_
      congr 1
      simp only [plcN, plcR, Nat.one_ne_zero, if_false]
      rcases hf3 with rfl | rfl
      · simp
      · have e2 : ht - 1 - (ht - 1 - x) = x := by omega
        simp [e2]
  · by_cases k1 : k = 1
    · simp only [if_neg k0, if_pos k1, due_grid, rev_grid]
      rcases hc2 with rfl | rfl
      · simp only [if_true]
        congr 1
        refine gridL_congr fun y x hy hx => ?_
        have e1 : wd - 1 - (wd - 1 - x) = x := by omega
        have e2 : ht - 1 - (ht - 1 - y) = y := by omega
        congr 1
        simp only [plcN, plcR, if_true]
        rcases hf2 with rfl | rfl <;> rcases hf3 with rfl | rfl <;> simp [e1, e2]
      · simp only [Nat.one_ne_zero, if_false]
        congr 1
        refine gridL_congr fun y x hy hx => ?_
        have e1 : wd - 1 - (wd - 1 - y) = y := by omega
        have e2 : ht - 1 - (ht - 1 - x) = x := by omega
        congr 1
        simp only [plcN, plcR, Nat.one_ne_zero, if_false]
        rcases hf2 with rfl | rfl <;> rcases hf3 with rfl | rfl <;> simp [e1, e2]
    · simp only [if_neg k0, if_neg k1, due_grid, trs_grid]
      rcases hc2 with rfl | rfl <;> rfl
theorem stp_lt {st : Nat × Nat × Nat} {k : Nat} (h : st.1 < 2 ∧ st.2.1 < 2 ∧ st.2.2 < 2) : (stp st k).1 < 2 ∧ (stp st k).2.1 < 2 ∧ (stp st k).2.2 < 2 := by
  unfold stp
  split
  · split <;> refine ⟨?_, ?_, ?_⟩ <;> dsimp only <;> omega
  · split <;> refine ⟨?_, ?_, ?_⟩ <;> dsimp only <;> omega
theorem deeds_step {l : List Nat} {ht wd : Nat} : ∀ (ks : List Nat) (st : Nat × Nat × Nat), (st.1 < 2 ∧ st.2.1 < 2 ∧ st.2.2 < 2) → deeds (picOf l ht wd st) ks = picOf l ht wd (ks.foldl stp st)
  | [], _, _ => rfl
  | k :: r, (cr, f0, f1), h => by
    show deeds (deed (picOf l ht wd (cr, f0, f1)) k) r = _
    rw [deed_step h.1 h.2.1 h.2.2]
    exact deeds_step r _ (stp_lt h)
def stOf (ks : List Nat) : Nat × Nat × Nat := (crossN ks, flipN ks 0, flipN ks 1)
theorem flipP_pre {ks : List Nat} {k odd i : Nat} (hi : i < ks.length) : flipP (ks ++ [k]) odd i = flipP ks odd i := by
  unfold flipP
  rw [List.getD_eq_getElem?_getD, List.getElem?_append_left hi, ← List.getD_eq_getElem?_getD, List.take_append_of_le_length (Nat.le_of_lt hi)]
theorem flipP_at {ks : List Nat} {k odd : Nat} : flipP (ks ++ [k]) odd ks.length = (k == 1 || (k == 0 && ks.count 2 % 2 == odd)) := by
  unfold flipP
  rw [List.getD_eq_getElem?_getD, List.getElem?_append_right (Nat.le_refl _), List.take_append_of_le_length (Nat.le_refl _), List.take_length]
  simp
theorem flipN_snoc {ks : List Nat} {k odd : Nat} : flipN (ks ++ [k]) odd = (flipN ks odd + (if (k == 1 || (k == 0 && ks.count 2 % 2 == odd)) = true then 1 else 0)) % 2 := by
  unfold flipN
  rw [List.length_append, List.length_singleton, List.range_succ, List.filter_append, List.length_append]
  have e : (List.range ks.length).filter (flipP (ks ++ [k]) odd) = (List.range ks.length).filter (flipP ks odd) := List.filter_congr fun i hi => flipP_pre (List.mem_range.mp hi)
  rw [e, List.filter_cons, flipP_at]
  cases (k == 1 || (k == 0 && ks.count 2 % 2 == odd)) <;> simp
theorem st_snoc {ks : List Nat} {k : Nat} (hk : k < 3) : stp (stOf ks) k = stOf (ks ++ [k]) := by
  have hk3 : k = 0 ∨ k = 1 ∨ k = 2 := by omega
  unfold stOf
  rw [flipN_snoc, flipN_snoc]
  have hf0 : flipN ks 0 < 2 := Nat.mod_lt _ (by omega)
  have hf1 : flipN ks 1 < 2 := Nat.mod_lt _ (by omega)
  have hcr : crossN ks < 2 := Nat.mod_lt _ (by omega)
  have hc : crossN (ks ++ [k]) = (ks.count 2 + (if k = 2 then 1 else 0)) % 2 := by
    unfold crossN
    rw [List.count_append, List.count_singleton]
    congr 2
    rcases hk3 with rfl | rfl | rfl <;> rfl
  have hc0 : crossN ks = ks.count 2 % 2 := rfl
  rw [hc]
  generalize flipN ks 0 = a at *
  generalize flipN ks 1 = b at *
  generalize crossN ks = c at *
  generalize List.count 2 ks = n at *
  unfold stp
  have hn : n % 2 = 0 ∨ n % 2 = 1 := by omega
  rcases hk3 with rfl | rfl | rfl <;> rcases hn with hn | hn <;> simp [hn, hc0] <;> omega
theorem st_fold : ∀ (ks pre : List Nat), (∀ k ∈ ks, k < 3) → ks.foldl stp (stOf pre) = stOf (pre ++ ks)
  | [], pre, _ => by simp
  | k :: r, pre, h => by
    rw [List.foldl_cons, st_snoc (h k List.mem_cons_self), st_fold r _ fun x hx => h x (List.mem_cons_of_mem _ hx), List.append_assoc]
    rfl
theorem told_due {l ks : List Nat} {ht wd : Nat} (hl : l.length = ht * wd) (hks : ∀ k ∈ ks, k < 3) : deeds ⟨l, wd, ht⟩ ks = picOf l ht wd (stOf ks) := by
  have e : (⟨l, wd, ht⟩ : Pic) = picOf l ht wd (0, 0, 0) := by
    unfold picOf
    simp only [if_true, due_grid]
    congr 1
    refine Eq.trans (list_grid hl) (gridL_congr fun y x hy hx => ?_)
    simp [plcN, plcR]
  rw [e, deeds_step ks _ (by decide)]
  have := st_fold ks [] hks
  rw [List.nil_append] at this
  rw [← this]
  rfl

/-! the line's words -/
theorem gL_pre (ws : List (List Nat)) : ∀ (l : List Cl) (a : List (List Nat)) (c : Option (List Nat)), gL (ws ++ a, c) l = (ws ++ (gL (a, c) l).1, (gL (a, c) l).2)
  | [], _, _ => rfl
  | x :: r, a, c => by
    have key : addR (ws ++ a, c) x = (ws ++ (addR (a, c) x).1, (addR (a, c) x).2) := by cases x <;> simp [addR]
    show gL (addR (ws ++ a, c) x) r = _
    rw [key, gL_pre ws r]
    rfl
theorem chunk_all : ∀ (k : Fin 3) (h j : Fin 4), opens (spL k h ++ [sepC j]) 0 = 0 ∧ gL ([], none) (ann (spL k h ++ [sepC j]) 0) = ([nmL k], none) ∧ ∀ c ∈ spL k h ++ [sepC j], c < 256 ∧ c ≠ 92 := by decide +kernel
theorem sepN_lt (x : Int) : sepN x < 4 := (fm4 _).2
theorem howN_lt (x : Int) : howN x < 4 := (fm4 _).2
theorem chunk_ok (x : Int) : opens (chunk x) 0 = 0 ∧ gL ([], none) (ann (chunk x) 0) = ([nmL (kindN x)], none) ∧ ∀ c ∈ chunk x, c < 256 ∧ c ≠ 92 :=
  chunk_all ⟨kindN x, kindN_lt x⟩ ⟨howN x, howN_lt x⟩ ⟨sepN x, sepN_lt x⟩
theorem line_run : ∀ (xs : List Int) (ws : List (List Nat)), opens (lineL xs) 0 = 0 ∧ gL (ws, none) (ann (lineL xs) 0) = (ws ++ xs.map fun x => nmL (kindN x), none)
  | [], ws => by
    refine ⟨rfl, ?_⟩
    show (ws, none) = _
    simp
  | x :: r, ws => by
    have e : lineL (x :: r) = chunk x ++ lineL r := rfl
    obtain ⟨h1, h2, _⟩ := chunk_ok x
    obtain ⟨i1, i2⟩ := line_run r (ws ++ [nmL (kindN x)])
    refine ⟨by rw [e, opens_app, h1, i1], ?_⟩
    rw [e, ann_app, h1]
    have e3 : gL (ws, none) (ann (chunk x) 0 ++ ann (lineL r) 0) = gL (gL (ws, none) (ann (chunk x) 0)) (ann (lineL r) 0) := List.foldl_append ..
    have e4 := gL_pre ws (ann (chunk x) 0) [] none
    rw [List.append_nil, h2] at e4
    rw [e3, e4]
    show gL (ws ++ [nmL (kindN x)], none) _ = _
    rw [i2]
    simp
theorem reads_line (xs : List Int) : reads (lineL xs) = some ((xs.map kindN).map nmL) := by
  obtain ⟨h1, h2⟩ := line_run xs []
  unfold reads wds
  rw [if_pos h1, h2]
  simp [wdsL, List.map_map, Function.comp_def]
theorem reads_turned (xs : List Int) : reads (lineL xs).reverse = some ((xs.map kindN).reverse.map fun k => (nmL k).reverse) := by
  rw [reads_mir, reads_line]
  simp [mir, List.map_map, Function.comp_def, List.map_reverse]
theorem line_mem (xs : List Int) {c : Nat} (h : c ∈ lineL xs) : c < 256 ∧ c ≠ 92 := by
  obtain ⟨x, _, hx⟩ := List.mem_flatMap.mp h
  exact (chunk_ok x).2.2 c hx
theorem lit92 {c : Nat} (h : c ≠ 92) : (Str.ofString "\\").cps.toList.contains c = false := by
  have e : (Str.ofString "\\").cps.toList = [92] := by decide +kernel
  rw [e]
  simp [h]
theorem line_pos {xs : List Int} (h : 0 < xs.length) : 0 < (lineL xs).length := by
  cases xs with
  | nil => cases h
  | cons x r =>
    have e : lineL (x :: r) = chunk x ++ lineL r := rfl
    rw [e, List.length_append]
    have : 0 < (chunk x).length := by simp [chunk]
    omega
end Mine
end
section
open Lean Meta Elab PySem PySem.W PyProof.Rows PySem.Calls
set_option maxRecDepth 100000
set_option maxHeartbeats 0
set_option Elab.async false
set_option linter.unusedVariables false
namespace Mine
theorem fillBZ : (fun (_ : Params → Frag) (_ : OpenLaw) => True) K rw1 := by k_fill; trivial
theorem fm3 (y : Int) : 2 + Int.fmod y 3 = ((2 + (Int.fmod y 3).toNat : Nat) : Int) ∧ 2 + (Int.fmod y 3).toNat ≤ 4 := by
  have h : 0 ≤ Int.fmod y 3 := Int.fmod_nonneg_of_pos _ (by omega)
  have h2 : Int.fmod y 3 < 3 := Int.fmod_lt_of_pos _ (by omega)
  omega
theorem drawn_cons (ns : List Int) : ∃ d0 ds, (ns ++ [4, 0, 2]).take 7 = d0 :: ds ∧ ds.length ≤ 6 ∧ 0 < ds.length := by
  have hl : 3 ≤ ((ns ++ [4, 0, 2]).take 7).length ∧ ((ns ++ [4, 0, 2]).take 7).length ≤ 7 := by
    rw [List.length_take, List.length_append]
    simp only [List.length_cons, List.length_nil]
    omega
  cases e : (ns ++ [4, 0, 2]).take 7 with
  | nil => rw [e] at hl; simp at hl
  | cons d0 ds =>
    rw [e, List.length_cons] at hl
    exact ⟨d0, ds, rfl, by omega, by omega⟩
theorem ints_two {zs : List Value} {a b : Int} (h : IntsAre zs [a, b]) : ∃ ta tb, zs = [.int a ta, .int b tb] := by
  cases h with
  | cons _ ta r =>
    cases r with
    | cons _ tb r => cases r; exact ⟨ta, tb, rfl⟩
theorem txts_nm (ks : List Nat) : txts (ks.map nmL) = ks.map nm := by
  simp [txts, List.map_map, Function.comp_def, nm_L]
section
variable {w : World} {mean : ExcName → Option Value} {mg mb : Str → Option Value} {dp un : Nat} {gd : Option (List Code)} {A₀ : Around} {base h₀ : Heap} {L fa : Addr} {ccd : Value} {s : Shared} {E : Value → Shared → Prop} {Q : Flow → Shared → Prop} {c1 c2 c3 c4 c5 c6 c7 : Nat} {o1 o2 o3 o4 o5 o6 o7 : Obj}
theorem law_b {l : Addr} {vs : List Value} {ns : List Int} (hl : h₀.IsList l vs.toArray) (hi : IntsAre vs ns) (hn : ns.length ≤ 63)
    (d1 : o1.data = .cell none) (d2 : o2.data = .cell none) (d3 : o3.data = .cell none) (d4 : o4.data = .cell none) (d5 : o5.data = .cell none) (d6 : o6.data = .cell none) (d7 : o7.data = .cell none)
    (hc : c1 < c2 ∧ c2 < c3 ∧ c3 < c4 ∧ c4 < c5 ∧ c5 < c6 ∧ c6 < c7)
    (B : Below A₀ base [] h₀) (F : Fr h₀ L s.heap (fun y => if y = "script" then some (.ref l) else none)) (X : (K w.params).In h₀) (N : News h₀ L s.heap [(c7, o7), (c6, o6), (c5, o5), (c4, o4), (c3, o3), (c2, o2), (c1, o1)]) (T : Top q loose mean mg mb h₀)
    (G : Gd w.params mean mg mb base) (hd : dp + 24 < recursionLimit) (hu : un + 220 < cLine)
    (hret : ∀ h' tk' m', Fr h₀ L h' m' → Q (.ret (.bool true)) { s with heap := h', toks := tk' }) :
    wpG (model pw w) (ktrTop dp un gd "law" flaw_s L fa ccd (lawCl c1 c2 c3 c4 c5 c6 c7) []) (execs flaw_b (envX "law" flaw_s L fa ccd (lawCl c1 c2 c3 c4 c5 c6 c7))) Q E s := by
  have rd : ∀ k, k ≤ 20 → dp + k < recursionLimit := fun k h => Nat.lt_of_le_of_lt (Nat.add_le_add_left (Nat.le_trans h (by decide)) dp) hd
  have ru : ∀ k, k ≤ 200 → un + k < cLine := fun k h => Nat.lt_of_le_of_lt (Nat.add_le_add_left (Nat.le_trans h (by decide)) un) hu
  obtain ⟨h12, h23, h34, h45, h56, h67⟩ := id hc
  rw [law_body]
  obtain ⟨d0, ds, ed, hds, hds0⟩ := drawn_cons ns
  obtain ⟨eh, hht⟩ := fm3 d0
  obtain ⟨ew, hwd⟩ := fm3 (Int.fdiv d0 3)
  have hht0 : 0 < 2 + (Int.fmod d0 3).toNat := by omega
  have hwd0 : 0 < 2 + (Int.fmod (Int.fdiv d0 3) 3).toNat := by omega
  generalize 2 + (Int.fmod d0 3).toNat = ht at *
  generalize 2 + (Int.fmod (Int.fdiv d0 3) 3).toNat = wd at *
  refine wpG_execs_cons (wpG.of (law_0 hl hi hn d1 hc B F X N T (rd _ (by decide)) (ru _ (by decide)) fun D h1 k1 o1' zs lD e1 hz F1 N1 => ?_))
  rw [ed] at hz
  dsimp only
  refine wpG_execs_cons (wpG.of (law_1 (D := D) eh ew hz hds e1 d2 ⟨h12, h23, h34, h45, h56, h67, lD⟩ B F1 X N1 T (rd _ (by decide)) (ru _ (by decide)) fun Z h2 k2 o2' t1 t2 lZ e2 F2 N2 => ?_))
  dsimp only
  refine wpG_execs_cons (wpG.of (law_2 (D := D) (Z := Z) hht hwd hz e1 e2 d3 ⟨h12, h23, h34, h45, h56, h67, lD, lZ⟩ B F2 X N2 T (rd _ (by decide)) (ru _ (by decide)) fun h3 k3 o3' t3 e3 F3 N3 => ?_))
  dsimp only
  refine wpG_execs_cons (wpG.of (law_3 (D := D) (Z := Z) hz hds e1 d4 ⟨h12, h23, h34, h45, h56, h67, lD, lZ⟩ B F3 X N3 T (rd _ (by decide)) (ru _ (by decide)) fun Y ys h4 k4 o4' lY hy e4 F4 N4 => ?_))
  dsimp only
  refine wpG_execs_cons (wpG.of (law_4 (D := D) hz hds e1 B F4 X N4 T (rd _ (by decide)) (ru _ (by decide)) fun t5 h5 k5 F5 N5 => ?_))
  dsimp only
  have N5' := newsDrop2 (news_tail N5)
  have N5 : News h₀ L h5 [(Y, LCg.lst ys), (Z, W.listOf #[.int (ht : Nat) t1, .int (wd : Nat) t2] 0), (c7, o7), (c6, o6), (c5, o5), (c4, o4'), (c3, o3'), (c2, o2'), (c1, o1')] := newsSub N5 fun p hp => by
    rcases List.mem_cons.mp hp with h | h
    · exact List.mem_cons.mpr (.inl h)
    · rcases List.mem_cons.mp h with h | h
      · exact List.mem_cons_of_mem _ (List.mem_cons.mpr (.inl h))
      · exact List.mem_cons_of_mem _ (List.mem_cons_of_mem _ (List.mem_cons_of_mem _ h))
  clear N5'
  have hks : ∀ k ∈ ds.map kindN, k < 3 := fun k hk => by
    obtain ⟨x, _, rfl⟩ := List.mem_map.mp hk
    exact kindN_lt x
  have hkl : (ds.map kindN).length ≤ 6 := by rw [List.length_map]; exact hds
  have olen : (octs d0 (ht * wd)).length = ht * wd := by unfold octs; rw [List.length_map, List.length_range]
  have ok : Ok ⟨octs d0 (ht * wd), wd, ht⟩ := ⟨fun c hcm => by
    obtain ⟨k, _, rfl⟩ := List.mem_map.mp hcm
    exact oct_lt d0 k, hwd0, Nat.le_trans hwd (by decide), hht0, Nat.le_trans hht (by decide), olen⟩
  have hrl := reads_line ds
  have hrt := reads_turned ds
  have hlm := fun c => @line_mem ds c
  have hlen := lineL_len ds
  have hpos := line_pos hds0
  generalize lineL ds = ll at *
  generalize hkse : ds.map kindN = ks at *
  have ell : (⟨ll.toArray⟩ : Str).cps.toList = ll := by simp
  have ezl : (⟨ll.toArray⟩ : Str).length = ll.length := by show ll.toArray.size = _; simp
  have htd := told_due (l := octs d0 (ht * wd)) olen hks
  have hback := deeds_back ok ks
  have okd := ok.deeds ks
  have hf0 : flipN ks 0 < 2 := Nat.mod_lt _ (by omega)
  have hf1 : flipN ks 1 < 2 := Nat.mod_lt _ (by omega)
  have hcr : crossN ks < 2 := Nat.mod_lt _ (by omega)
  refine wpG_execs_cons (law_5 (p := ⟨octs d0 (ht * wd), wd, ht⟩) (ks := ks) (Y := Y) (Z := Z) hks ok (by rw [ell]; exact hrl) (txts_nm ks) (fun c hcm => lit92 (hlm c (by rw [ell] at hcm; exact hcm)).2) (by omega) e2 e3 B F5 X N5 T G (rd _ (by decide)) (ru _ (by decide)) fun P t6 t7 h6 k6 lP F6 N6 => ?_)
  dsimp only
  refine wpG_execs_cons (wpG.of (law_6 (ks := ks) (P := P) (Y := Y) (Z := Z) hkl hy e4 d5 ⟨h12, h23, h34, h45, h56, h67, Nat.lt_trans lD lZ, lY, lP⟩ B F6 X N6 T (rd _ (by decide)) (ru _ (by decide)) fun D' h7 k7 zs' o5' lD' hz' e5 F7 N7 => ?_))
  dsimp only
  obtain ⟨ta, tb, rfl⟩ := ints_two hz'
  refine wpG_execs_cons (wpG.of (law_7 (ks := ks) (P := P) (Y := Y) (Z := Z) (D := D') hkl hy e4 d6 ⟨h12, h23, h34, h45, h56, h67, Nat.lt_trans lD lZ, lY, lP, lD'⟩ B F7 X N7 T (rd _ (by decide)) (ru _ (by decide)) fun h8 k8 t8 o6' e6 F8 N8 => ?_))
  dsimp only
  have N8 : News h₀ L h8 [(D', LCg.lst [.int (flipN ks 0 : Nat) ta, .int (flipN ks 1 : Nat) tb]), (P, pic (deeds ⟨octs d0 (ht * wd), wd, ht⟩ ks).l (deeds ⟨octs d0 (ht * wd), wd, ht⟩ ks).wd t6 t7), (Z, W.listOf #[.int (ht : Nat) t1, .int (wd : Nat) t2] 0), (c7, o7), (c6, o6'), (c5, o5'), (c4, o4'), (c3, o3'), (c2, o2'), (c1, o1')] := newsSub N8 fun p hp => by
    rcases List.mem_cons.mp hp with h | h
    · exact List.mem_cons.mpr (.inl h)
    · rcases List.mem_cons.mp h with h | h
      · exact List.mem_cons_of_mem _ (List.mem_cons.mpr (.inl h))
      · exact List.mem_cons_of_mem _ (List.mem_cons_of_mem _ (List.mem_cons_of_mem _ h))
  refine wpG_execs_cons (wpG.of (law_8 (P := P) (Z := Z) (D := D') hcr e2 e6 B F8 X N8 T (rd _ (by decide)) (ru _ (by decide)) fun h9 k9 t9 F9 N9 => ?_))
  dsimp only
  refine wpG_execs_cons (wpG.of (law_9 (P := P) (Z := Z) (D := D') hcr e2 e6 d7 ⟨h12, h23, h34, h45, h56, h67, Nat.lt_trans lD lZ, Nat.lt_trans lY lP, lD'⟩ B F9 X N9 T (rd _ (by decide)) (ru _ (by decide)) fun h10 k10 t10 o7' e7 F10 N10 => ?_))
  dsimp only
  refine wpG_execs_cons (wpG.of (law_10 (l := octs d0 (ht * wd)) (P := P) (Z := Z) (D := D') (ht := ht) (wd := wd) (f0 := flipN ks 0) (f1 := flipN ks 1) (cr := crossN ks) (n1 := 0) (n2 := 2) (t1 := t1) (t2 := t2) (t3 := ta) (t4 := tb) hht hwd hf0 hf1 hcr ok.lt olen e2 e3 e5 e6 e7 B F10 X N10 T (rd _ (by decide)) (ru _ (by decide)) fun h11 k11 t11 F11 N11 => ?_))
  dsimp only
  have N11 := news_tail N11
  have hP1 : (deeds ⟨octs d0 (ht * wd), wd, ht⟩ ks).l = dueL (octs d0 (ht * wd)) ht wd (flipN ks 0) (flipN ks 1) (crossN ks) := by rw [htd]; rfl
  have hP2 : (deeds ⟨octs d0 (ht * wd), wd, ht⟩ ks).wd = (if crossN ks = 0 then wd else ht) := by rw [htd]; rfl
  have N11' := N11
  rw [hP1, hP2] at N11'
  refine wpG_execs_cons (wpG.of (law_11 (P := P) (Z := Z) e7 B F11 X N11' T (rd _ (by decide)) (ru _ (by decide)) fun h12 k12 F12 N12 => ?_))
  dsimp only
  refine wpG_execs_cons (law_12 (P := P) (Z := Z) (x := ⟨ll.toArray⟩) (ks := ks) (fun c hcm => (hlm c (by rw [ell] at hcm; exact hcm)).1) (by omega) (by omega) hkl (fun c hcm => lit92 (hlm c (by rw [ell] at hcm; exact hcm)).2) (by rw [ell]; exact hrt) B F12 X N12 T G (rd _ (by decide)) (ru _ (by decide)) fun D3 h13 k13 ys3 hy3 lD3 F13 N13 => ?_)
  dsimp only
  rw [← hP1, ← hP2] at N13
  refine wpG_execs_cons (law_13 (p := deeds ⟨octs d0 (ht * wd), wd, ht⟩ ks) (ks := ks.reverse) (D := D3) (P := P) (Z := Z) (fun k hk => hks k (List.mem_reverse.mp hk)) okd hy3 B F13 X N13 T (rd _ (by decide)) (ru _ (by decide)) fun R t14 t15 h14 k14 F14 N14 => ?_)
  dsimp only
  rw [hback] at N14
  refine wpG_execs_cons (wpG.of (law_14 (R := R) (Z := Z) e2 e3 B F14 X N14 T (rd _ (by decide)) (ru _ (by decide)) fun h15 k15 m15 F15 => ?_))
  exact hret h15 k15 m15 F15
end
end Mine
end
section
open PySem PySem.W PyProof.Rows
set_option Elab.async false
set_option maxRecDepth 100000
set_option maxHeartbeats 0
set_option linter.unusedVariables false
namespace Mine
theorem KA_ok : ∀ P, KA = (K P).map (·.1) := fun _ => by kernel_rfl
end Mine
end
section
open Lean Meta Elab PySem PySem.W PyProof.Rows PySem.Spec PySem.Calls
set_option maxRecDepth 100000
set_option maxHeartbeats 0
set_option Elab.async false
set_option linter.unusedVariables false
namespace Mine
theorem fillCA : (fun (_ : Params → Frag) (_ : OpenLaw) => True) K rw1 := by k_fill; trivial
theorem kw77 : True := by
  k_with_none
  k_with "c_enter" => (refine' code_def ?k1 ?k2 ?k3 ?k4 ?k5 ?kA ?kF ?kK ?k6 ?k7 ?zk8 ?zk9 ?kB ?_ ?c2 ?c3 ?c4 ?c5; (case kA => exact rfl); (case kF => exact rfl); (case kK => assumption); (case k1 => k_asm); (case k2 => k_asm); (case k3 => k_asm); (case k4 => k_asm); (case k5 => k_asm); (case k6 => k_is); (case k7 => k_is); (case zk8 => ktr_room); (case zk9 => first | exact BindsTo.of_eq rfl | exact binds_K (by k_in) rfl (by k_is) rfl rfl rfl | fail "c_enter: the arguments"); (case c5 => decide); (case kB => exact locs rfl); (case c2 => exact rfl); (case c3 => exact rfl); (case c4 => exact rfl); k_whole; intro zg' zL' zh' zFG' zF' zN' zB' zX' zT'; (try dsimp only); (try k_fold))
  k_with "compareOp In str str" => (k_here; (first | with_reducible refine in_ch (by with_reducible assumption) ?_ | with_reducible refine in_nil ?_ | with_reducible refine in_b (b := false) (by decide +kernel) ?_ | with_reducible refine in_b (b := true) (by decide +kernel) ?_))
  k_with "compareOp NotIn str str" => (k_here; (first | with_reducible refine notin_ch (by with_reducible assumption) ?_ | with_reducible refine notin_nil ?_))
  k_with "compareOp Eq str str" => (k_here; (first | with_reducible refine eq_b (by with_reducible assumption) ?_ | with_reducible refine eq_b (b := false) (by decide +kernel) ?_ | with_reducible refine eq_b (b := true) (by decide +kernel) ?_))
  k_with "truthy str" => (k_here; (first | with_reducible refine truthy_ch ?_ | with_reducible refine truthy_nil ?_ | with_reducible refine truthy_p (by with_reducible assumption) (by with_reducible assumption) ?_); intro zk9)
  k_with "s_enter" => (refine' code_defS ?k1 ?k2 ?k3 ?k4 ?k5 ?XB ?TB ?D ?T0 ?kA ?k6 ?k7 ?zk8 ?zk9 ?kB ?_ ?cK ?c2 ?c3 ?c4 ?c5; (case kA => exact rfl); (case k2 => k_asm); (case k1 => k_asm); (case XB => exact Gd.x (by assumption)); (case TB => exact Gd.t (by assumption)); (case D => assumption); (case T0 => exact KtsTurn.refl); (case k3 => k_asm); (case k4 => k_asm); (case k5 => k_asm); (case k6 => k_is); (case k7 => k_is); (case zk8 => ktr_room); (case zk9 => first | exact BindsTo.of_eq rfl | exact binds_K (by k_in) rfl (by k_is) rfl rfl rfl | fail "s_enter: the arguments"); (case kB => exact locs rfl); (case cK => first | exact rfl | assumption); (case c2 => exact rfl); (case c3 => exact rfl); (case c4 => exact rfl); (case c5 => decide); k_whole; intro zg' zL' zh' zFG' zF' zN' zB' zX' zT' zD'; (try dsimp only); (try k_fold))
  trivial
theorem post_ok (args : List WData) : rw1.row.toRowW.claim.post args (.bool true) args = true := by
  show (WShape.has rw1.row.toRowW.records (WData.bool true) .bool && WTm.holds rw1.row.toRowW.records (.eq .res (.lit (.bool true))) { args := args, res := some (.bool true), after := args }) = true
  have h : (WTm.eq .res (.lit (.bool true))).value rw1.row.toRowW.records { args := args, res := some (.bool true), after := args } = some (.bool (true == true)) :=
    w_eq_bool (by simp [WTm.value]) (by simp [WTm.value])
  unfold WTm.holds
  rw [h]
  simp [WShape.has, WShape.arms]
theorem top_go : ∀ (w : World) (s₀ s₁ : Shared) (mg mb : Str → Option Value), Ground q loose rw1.row.toRowW.records (XL q []) w s₀ mg mb s₁.heap → Hook.says (kHook K KA KA_ok) w s₁.heap → ∀ (a : Addr) (o : Obj) (pm cd doc dV kV : Value), s₁.heap.get? a = some o →
    o.data = .func { docDef lawRec.name lawRec.params lawRec.body lawRec.scope pm cd doc with defaults := dV, kwdefaults := kV } → s₁.heap.CodeRec cd lawRec.name → Dflts mg s₁.heap lawRec.params [] dV kV → mg lawRec.name = some (.ref a) → s₁.gens = #[] →
    ∀ (args : List WData) (vals : List Value) (as : List Addr), rw1.row.toRowW.claim.pre args = true → WData.layableAll args = true → ReadsAllW rw1.row.toRowW.records (classAt s₀.heap) s₁.heap vals args as → WellAll w.params s₁.heap vals args → (∀ a ∈ as, (a == sysModules) = false) →
      wpG (model rw1.row.toRowW.prog w) callerA (call (.ref a) vals) (fun v s' => GoodWG rw1.row.toRowW.claim (classAt s₀.heap) (ExcName.means s₀.heap) args s₁ (.ok (.ret v)) s')
        (fun e s' => GoodWG rw1.row.toRowW.claim (classAt s₀.heap) (ExcName.means s₀.heap) args s₁ (.error e) s') s₁ := by
  k_fill
  intro w s₀ s₁ mg mb G Y fa o pm cd doc dV kV ho hd hcd hD hmg hg args vals as hpre hlay hrd hwl hlo
  have KX := kIn_of Y
  have X := (Ground.X G).1
  have V := (Ground.X G).2
  refine Ground.open G ?_
  intro T B D TE TW
  try (refine guard_noD D (by decide +kernel) ?_; clear D)
  obtain ⟨_, _, M⟩ := bmod_of_top T
  have TA := at_of_top T
  try (obtain ⟨_, _, he, B0⟩ := based_of_top T rfl hmg ho hd; have he' : cd = _ := he; subst he'; clear he)
  clear hmg
  wrow_args hpre hlay hrd hwl hlo
  rename IntsAre _ _ => hI
  rename Heap.IsList _ _ _ => hL
  rename (¬ ((_ : Int) < _)) => hlen
  rename_i ns _ _ _ _ _ _ _ l vs _ _ _ _ _ _
  have hT : Top q loose (ExcName.means s₀.heap) mg mb s₁.heap := by
    have e : looseW q loose = loose := by decide +kernel
    rw [e] at T; exact T
  have he := Dflts.none hD rfl
  subst he
  have he := Dflts.noKw hD
  subst he
  refine wpG_call ?_
  refine codeG_call_cells (fo := o) (body := flaw_b) (scope := flaw_s) (params := flaw_p) (name := "law") (qual := "law") (binds := [("script", .ref l)]) (by decide) ho hd hT.nolimit hcd (BindsTo.of_eq rfl) (kindsX (by rfl)) (by decide) ?_ rfl rfl rfl
  intro L' h₁ tk cells F N Y'
  rw [law_cl] at Y'
  obtain ⟨o1, o2, o3, o4, o5, o6, o7, N7, d1, d2, d3, d4, d5, d6, d7⟩ : ∃ o1 o2 o3 o4 o5 o6 o7 : Obj, News s₁.heap L' h₁ [(L' + 1 + 1 + 1 + 1 + 1 + 1 + 1, o7), (L' + 1 + 1 + 1 + 1 + 1 + 1, o6), (L' + 1 + 1 + 1 + 1 + 1, o5), (L' + 1 + 1 + 1 + 1, o4), (L' + 1 + 1 + 1, o3), (L' + 1 + 1, o2), (L' + 1, o1)] ∧ o1.data = .cell none ∧ o2.data = .cell none ∧ o3.data = .cell none ∧ o4.data = .cell none ∧ o5.data = .cell none ∧ o6.data = .cell none ∧ o7.data = .cell none := by
    cases Y' with
    | cons d7 r =>
      cases r with
      | cons d6 r =>
        cases r with
        | cons d5 r =>
          cases r with
          | cons d4 r =>
            cases r with
            | cons d3 r =>
              cases r with
              | cons d2 r =>
                cases r with
                | cons d1 r =>
                  cases r
                  exact ⟨_, _, _, _, _, _, _, N, d1, d2, d3, d4, d5, d6, d7⟩
  have hlen' : ns.length ≤ 63 := by omega
  have hcc : @LT.lt Nat _ (L' + 1) (L' + 1 + 1) ∧ @LT.lt Nat _ (L' + 1 + 1) (L' + 1 + 1 + 1) ∧ @LT.lt Nat _ (L' + 1 + 1 + 1) (L' + 1 + 1 + 1 + 1) ∧ @LT.lt Nat _ (L' + 1 + 1 + 1 + 1) (L' + 1 + 1 + 1 + 1 + 1) ∧ @LT.lt Nat _ (L' + 1 + 1 + 1 + 1 + 1) (L' + 1 + 1 + 1 + 1 + 1 + 1) ∧ @LT.lt Nat _ (L' + 1 + 1 + 1 + 1 + 1 + 1) (L' + 1 + 1 + 1 + 1 + 1 + 1 + 1) :=
    ⟨Nat.lt_succ_self _, Nat.lt_succ_self _, Nat.lt_succ_self _, Nat.lt_succ_self _, Nat.lt_succ_self _, Nat.lt_succ_self _⟩
  exact law_b (l := l) (vs := vs) (ns := ns) (h₀ := s₁.heap) (base := s₁.heap) (mean := ExcName.means s₀.heap) (mg := mg) (mb := mb) hL hI hlen' d1 d2 d3 d4 d5 d6 d7 hcc (below_caller _) F KX N7 hT ⟨KX, hT⟩ (by decide) (by decide) fun h' tk' m' F' =>
    GoodW.toG ⟨.inl ⟨.bool true, .bool true, [], rfl, fun _ => rfl, .bool true, post_ok _, fun _ => ⟨.nil, fun _ h => nomatch h⟩⟩, F'.keep, rfl, hg⟩
end Mine
end
section
open Lean Meta Elab PySem PySem.W PyProof.Rows PySem.Calls
set_option maxRecDepth 100000
set_option maxHeartbeats 0
set_option Elab.async false
set_option linter.unusedVariables false
namespace Mine
/-- looks at the stack once: a tree that runs where no decoder stands on it, a plain answer elsewhere -/
def checked {α : Type} (t : Sem α) (d : α) : Sem α := .stack fun st => if st.all (fun x => Clean x.1) = true then t else pure d
section
variable {α : Type} {M : Model} {A : Around} {E : Value → Shared → Prop} {s : Shared}
theorem checked_wp {t : Sem α} {d : α} {Q : α → Shared → Prop} (h : wpG M A t Q E s) (hd : Q d s) : wpAny M A (checked t d) Q E s := fun Γ p hΓ => by
  show Sem.wp M Γ (if (((Γ.code, p) :: Γ.below).all fun x => Clean x.1) = true then t else pure d) _ _ p s
  by_cases hc : (((Γ.code, p) :: Γ.below).all fun x => Clean x.1) = true
  · rw [if_pos hc]
    have := List.all_eq_true.mp hc
    exact h Γ p hΓ ⟨this (Γ.code, p) List.mem_cons_self, fun x hx => this x (List.mem_cons_of_mem _ hx)⟩
  · rw [if_neg hc]
    exact hd
end
section
variable {den : Code → Sem PySem.Fin} {prog : Program} {w : World} {s s' : Shared} {o : Outcome}
theorem peel {t : Sem PySem.Fin} {d : PySem.Fin} (hz : s.asleep) {n : Nat} (h : schedN den prog w n (.single s ⟨checked t d, .builtin "claim.caller" {}, default, []⟩) = .halted o s') :
    ∃ n', schedN den prog w n' (.single s ⟨t, .builtin "claim.caller" {}, default, []⟩) = .halted o s' := by
  cases n with
  | zero => cases h
  | succ n =>
    refine ⟨n, ?_⟩
    have hc : (([(Code.builtin "claim.caller" {}, (default : Pos))] : List (Code × Pos)).all fun x => Clean x.1) = true := by decide
    have hs : step den prog w s ⟨checked t d, .builtin "claim.caller" {}, default, []⟩ = .go s ⟨t, .builtin "claim.caller" {}, default, []⟩ := by
      show Step.go s ⟨if (([(Code.builtin "claim.caller" {}, (default : Pos))] : List (Code × Pos)).all fun x => Clean x.1) = true then t else pure d, .builtin "claim.caller" {}, default, []⟩ = _
      rw [if_pos hc]
    have e := sstep_single den prog w s ⟨checked t d, .builtin "claim.caller" {}, default, []⟩ (by rfl) hz
    rw [hs] at e
    rcases e with e | e
    · simp only [schedN] at h
      rw [e] at h
      exact h
    · cases e
end
end Mine
end
section
open Lean Meta Elab PySem PySem.W PyProof.Rows PySem.Calls PySem.Spec
set_option maxRecDepth 100000
set_option maxHeartbeats 0
set_option Elab.async false
set_option linter.unusedVariables false
namespace Mine
theorem checked_G {α : Type} {M : Model} {A : Around} {E : Value → Shared → Prop} {s : Shared} {t : Sem α} {d : α} {Q : α → Shared → Prop} (h : wpAny M A (checked t d) Q E s) : wpG M A t Q E s := fun Γ p hΓ hc => by
  have := h Γ p hΓ
  have hc' : (((Γ.code, p) :: Γ.below).all fun x => Clean x.1) = true := List.all_eq_true.mpr fun x hx => by
    rcases List.mem_cons.mp hx with rfl | hx
    · exact hc.1
    · exact hc.2 x hx
  have e : Sem.wp M Γ (if (((Γ.code, p) :: Γ.below).all fun x => Clean x.1) = true then t else pure d) (fun a _ s' => Q a s') (fun e _ s' => E e s') p s := this
  rw [if_pos hc'] at e
  exact e
theorem checked_map {α β : Type} {M : Model} {A : Around} {E : Value → Shared → Prop} {s : Shared} {t : Sem α} {d : α} {t' : Sem β} {d' : β} {Q : α → Shared → Prop} {Q' : β → Shared → Prop} (h : wpAny M A (checked t d) Q E s) (hd : Q d s → Q' d' s) (ht : wpG M A t Q E s → wpG M A t' Q' E s) : wpAny M A (checked t' d') Q' E s := fun Γ p hΓ => by
  show Sem.wp M Γ (if (((Γ.code, p) :: Γ.below).all fun x => Clean x.1) = true then t' else pure d') _ _ p s
  by_cases hc : (((Γ.code, p) :: Γ.below).all fun x => Clean x.1) = true
  · rw [if_pos hc]
    have := List.all_eq_true.mp hc
    exact ht (checked_G h) Γ p hΓ ⟨this (Γ.code, p) List.mem_cons_self, fun x hx => this x (List.mem_cons_of_mem _ hx)⟩
  · rw [if_neg hc]
    have e : Sem.wp M Γ (if (((Γ.code, p) :: Γ.below).all fun x => Clean x.1) = true then t else pure d) (fun a _ s' => Q a s') (fun e _ s' => E e s') p s := h Γ p hΓ
    rw [if_neg hc] at e
    exact hd e
noncomputable abbrev realTree (name : Str) (vs : List Value) : Sem PySem.Fin := do
  match ← nsGet mainNs name with
  | some f => do ret (← PySem.call f vs)
  | none => unsupported "claim.caller:no-such-global"
example (name : Str) : callStub name = fun vs => ⟨realTree name vs, .builtin "claim.caller" {}, default, []⟩ := rfl
theorem holds_checked {r : OpenRow} {q : Program} {loose : List Str} {Xt : Shared → Bool} {XP : (Str → Option Value) → Heap → Prop} {α : Type} {Yf : Shared → α} {Ya : World → α} {YP : World → Heap → Prop} {d : DefRec} {kwd : List (Str × PySem.Expr)} {N : Nat}
    (left : LeftO r.prog q loose Xt Yf Ya N) (hY : ∀ w s, Yf s = Ya w → YP w s.heap) (hYk : ∀ w h h', YP w h → (∀ b o, h.get? b = some o → h'.get? b = some o) → YP w h')
    (hX : ∀ s, Xt s = true → XP (s.heap.nsMap mainGlobals) s.heap) (hXk : ∀ mg h h', XP mg h → (∀ b o, h.get? b = some o → h'.get? b = some o) → XP mg h')
    (hdef : defOf q r.name = some (d, kwd)) (hp : r.prog.theDef r.name = some (d.params, d.body, d.scope)) (hk : kwWritten? d.params.kwonlyargs d.params.kw_defaults = some kwd) (hRf : ∀ s, Xt s = true → RecFacts r.records s.heap) (hwr : (!r.writes || r.records.isEmpty) = true)
    (k1 : r.wellSaid = true) (ok : (chainsOk q && opensWell r.prog && (frees r.toRowW && r.within.isEmpty)) = true) (hb : r.prog.bare) (hw : r.toRowW.promised)
    (gd : ∀ cl mean args (s₁ : Shared), s₁.gens = #[] → GoodWG r.toRowW.claim cl mean args s₁ (.ok (.ret (.bool true))) s₁)
    (call : ∀ (w : World) (s₀ s₁ : Shared) (mg mb : Str → Option Value), Ground q loose r.records XP w s₀ mg mb s₁.heap → YP w s₁.heap → ∀ (a : Addr) (o : Obj) (pm cd doc dV kV : Value), s₁.heap.get? a = some o →
      o.data = .func { docDef d.name d.params d.body d.scope pm cd doc with defaults := dV, kwdefaults := kV } → s₁.heap.CodeRec cd d.name → Dflts mg s₁.heap d.params kwd dV kV → mg d.name = some (.ref a) → s₁.gens = #[] →
      ∀ (args : List WData) (vals : List Value) (as : List Addr), r.toRowW.claim.pre args = true → WData.layableAll args = true → ReadsAllW r.records (classAt s₀.heap) s₁.heap vals args as → WellAll w.params s₁.heap vals args → (∀ a ∈ as, (a == sysModules) = false) →
        wpG (model r.prog w) callerA (PySem.call (.ref a) vals) (fun v s' => GoodWG r.toRowW.claim (classAt s₀.heap) (ExcName.means s₀.heap) args s₁ (.ok (.ret v)) s')
          (fun e s' => GoodWG r.toRowW.claim (classAt s₀.heap) (ExcName.means s₀.heap) args s₁ (.error e) s') s₁) : r.Holds := by
  have H : r.toRowW.claim.HoldsOpenBy (fun vs => ⟨checked (realTree r.name vs) (.done (.ret (.bool true))), .builtin "claim.caller" {}, default, []⟩) (if r.pinned then [r.name] else []) r.keeps r.writes :=
    open_anyG (r := r.toRowW) (run := fun f vs => checked (PySem.call f vs) (.bool true)) (tree := fun vs => checked (realTree r.name vs) (.done (.ret (.bool true)))) left hY hYk hX hXk hRf hwr ok hb hw
      (fun vs w s mg f Q E hg hf h => checked_map h (fun x => x) fun h => wpG_step (wpAny_nsGet hg (by rw [hf]; exact wpG_bind (wpG_mono h (fun _ _ x => wpG_pure x) fun _ _ x => x))))
      (fun w s hg G n hn => by
        obtain rfl : n = r.name := by split at hn <;> simp_all
        exact pinned_of_view hg G hdef hp hk)
      fun w s₀ s₁ mg mb G Y args vs as hpre hlay L low => by
        obtain ⟨a, o, pm, cd, doc, dV, kV, h1, h2, h3, h4, h5⟩ := G.fn hdef
        exact ⟨.ref a, h1, checked_wp (call w s₀ s₁ mg mb G Y a o pm cd doc dV kV h2 h3 h4 h5 (defOf_name hdef ▸ h1) L.gens args vs as hpre hlay L.reads L.well (L.low low)) (gd _ _ _ _ L.gens)⟩
  have hch : chainsOk q = true := by
    obtain ⟨ok, _⟩ := Bool.and_eq_true_iff.mp ok
    exact (Bool.and_eq_true_iff.mp ok).1
  refine ⟨k1, hw, H.1, H.2.1, fun w => ⟨(H.2.2 w).1, fun s hs => ?_⟩⟩
  obtain ⟨s₀, hf, hg0, s₁, hT, hd, hr1, hr2, hc⟩ := (H.2.2 w).2 s hs
  obtain ⟨s₀', hf', _, s₂, hT2, hz2, _⟩ := (left.behind (XP := XP) hX hch w).2 s hs
  obtain rfl : s₀' = s₀ := Option.some.inj (hf'.symm.trans hf)
  have hz : s₁.asleep := Shared.asleep_of_life (hT.2.1.trans hT2.2.1.symm) hz2
  refine ⟨s₀', hf, hg0, s₁, hT, hd, hr1, hr2, ?_⟩
  intro args hpre hlay ord hord
  obtain ⟨vs, s₃, hlaid, n, o, s', hs', rest⟩ := hc args hpre hlay ord hord
  have hz3 : s₃.asleep := Shared.asleep_of_life (layAllW_rest _ _ _ hlaid).2.2.2 hz
  obtain ⟨n', hn'⟩ := peel hz3 hs'
  exact ⟨vs, s₃, hlaid, n', o, s', hn', rest⟩
end Mine
end
section
open Lean Meta Elab PySem PySem.W PyProof.Rows PySem.Calls PySem.Spec
set_option Elab.async false
set_option maxRecDepth 100000
set_option maxHeartbeats 0
set_option linter.unusedVariables false
namespace Mine
theorem run_ok (w : World) : (openT (denote treeTable) stepT stepOk fin1 pw w 8000 2000).map (fun c => (openSeen q loose (importedModules pw.main.body) (fun s => xlAt q [] s && recOk (RowW.records rw1.row.toRowW) s) true c.abs, KA.map (getT c))) = some (openGood q loose, (K w.params).map fun x => some x.2) := by
  rw [PySem.W.Fast.te10156331382660048174, PySem.W.Fast.te11892475500146522536, PySem.W.Fast.te14364793385576792824, PySem.W.Fast.te4187177175401517315, PySem.W.Fast.te6613529449190102663]
  kernel_rfl
theorem ws : rw1.wellSaid = true := by
  rw [PySem.W.Fast.te9446332074065402090]
  kernel_rfl
theorem ok_ok : (chainsOk q && opensWell rw1.row.toRowW.prog && (frees rw1.row.toRowW && rw1.row.toRowW.within.isEmpty)) = true := by decide +kernel
theorem good0 (cl : Str → Option Addr) (mean : ExcName → Option Value) (args : List WData) (s₁ : Shared) (hg : s₁.gens = #[]) : GoodWG rw1.row.toRowW.claim cl mean args s₁ (.ok (.ret (.bool true))) s₁ :=
  GoodW.toG ⟨.inl ⟨.bool true, .bool true, [], rfl, fun _ => rfl, .bool true, post_ok _, fun _ => ⟨.nil, fun _ h => nomatch h⟩⟩, fun _ _ e => e, rfl, hg⟩
theorem hd : rw1.Holds := by
  refine holds_law ws fun said => ?_
  refine holds_checked (q := q) (loose := loose) (Xt := fun s => xlAt q [] s && recOk (RowW.records rw1.row.toRowW) s) (XP := XL q []) (Yf := Hook.obs (kHook K KA KA_ok)) (Ya := Hook.val (kHook K KA KA_ok)) (YP := Hook.says (kHook K KA KA_ok)) (N := 8000)
    (left_of (M := 2000) (by decide) run_ok) (Hook.of (kHook K KA KA_ok)) (Hook.keeps (kHook K KA KA_ok)) (fun s e => xl_of s (Bool.and_eq_true_iff.mp e).1) XL.keeps (by kernel_rfl) (by kernel_rfl) (by kernel_rfl) (fun s e => recFacts_of (Bool.and_eq_true_iff.mp e).2) (by rfl) said ok_ok ⟨rfl, rfl, rfl, rfl, rfl, by decide +kernel⟩ ?hw good0 top_go
  w_witness2
end Mine
end
end
set_option maxRecDepth 100000 in
set_option maxHeartbeats 0 in
theorem PySem.Challenge.cw_op0201_02_holds : PySem.Challenge.rw_op0201_02.Holds := by
  exact Mine.hd
