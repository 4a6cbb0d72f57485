import PyProof.Rows.All
import Wide.All
import OpenK.AllK
import Wide.FinOn
import Lean
import PySem.Challenge.RW_mq0407_01
section
open PySem PySem.W PyProof.Rows
set_option Elab.async false
set_option maxRecDepth 100000
namespace Mine

/-- one step over a tree heap -/
abbrev StpT := Program → World → SharedT → Thread → Option (SharedT × Thread)

def impT (stp : SharedT → Thread → Option (SharedT × Thread)) (aeb : Thread → Option (List Value)) : Nat → SharedT → Thread → Option SharedT
  | 0, _, _ => none
  | n + 1, s, t => match aeb t with
    | some [] => some s
    | some (_ :: _) => none
    | none => match stp s t with
      | some (s', t') => impT stp aeb n s' t'
      | none => none
theorem impT_spec {tb : String → Option Builtin} {p : Program} {w : World} : ∀ {n : Nat} {s s' : SharedT} {t : Thread}, impT (stepT (denote tb) p w) Thread.atExitBegin n s t = some s' → importEnds tb p w n s.abs t = some s'.abs
  | 0, _, _, _, h => by simp [impT] at h
  | n + 1, s, s', t, h => by
    unfold impT at h
    unfold importEnds
    cases he : t.atExitBegin with
    | some x =>
      rw [he] at h
      cases x with
      | nil => dsimp only at h ⊢; cases h; rfl
      | cons => cases h
    | none =>
      rw [he] at h
      cases hs : stepT (denote tb) p w s t with
      | none => rw [hs] at h; cases h
      | some r => obtain ⟨s₂, t₂⟩ := r; rw [hs] at h; dsimp only; rw [stepT_spec hs]; exact impT_spec h

def topT (stp : SharedT → Thread → Option (SharedT × Thread)) (sok : Thread → Bool) : Nat → SharedT → Thread → Option SharedT
  | 0, _, _ => none
  | n + 1, s, t => match through t with
    | true => some s
    | false => match sok t with
      | false => none
      | true => match stp s t with
        | some (s', t') => topT stp sok n s' t'
        | none => none
theorem topT_spec {tb : String → Option Builtin} {p : Program} {w : World} {n₀ : Nat} {ann : Option Value} : ∀ {n : Nat} {s s' : SharedT} {t : Thread}, topT (stepT (denote tb) p w) (stepOk n₀ ann) n s t = some s' → topRun tb p w n₀ ann n s.abs t = some s'.abs
  | 0, _, _, _, h => by simp [topT] at h
  | n + 1, s, s', t, h => by
    unfold topT at h
    unfold topRun
    cases ht : through t with
    | true => rw [ht] at h; cases h; rfl
    | false =>
      rw [ht] at h
      cases hk : stepOk n₀ ann t with
      | false => rw [hk] at h; cases h
      | true =>
        rw [hk] at h
        cases hs : stepT (denote tb) p w s t with
        | none => rw [hs] at h; cases h
        | some r => obtain ⟨s₂, t₂⟩ := r; rw [hs] at h; dsimp only; rw [stepT_spec hs]; exact topT_spec h

def toT : List Obj → BT → Nat → Option (BT × Nat)
  | [], T, n => some (T, n)
  | o :: r, T, n => match ((T.ins n o).get n).isSome with
    | true => toT r (T.ins n o) (n + 1)
    | false => none
theorem toT_spec {life : Life} : ∀ {l : List Obj} {T T' : BT} {n n' : Nat}, toT l T n = some (T', n') → absHeap T' n' life = ⟨(absHeap T n life).objs ++ l.toArray, life⟩
  | [], T, T', n, n', h => by cases h; simp [absHeap]
  | o :: r, T, T', n, n', h => by
    unfold toT at h
    cases hg : ((T.ins n o).get n).isSome with
    | false => rw [hg] at h; cases h
    | true =>
      rw [hg] at h
      have ih := toT_spec (life := life) h
      rw [ih, absHeap_ins hg]
      show Heap.mk _ _ = Heap.mk _ _
      congr 1
      show ((absHeap T n life).push o).objs ++ r.toArray = _
      show (absHeap T n life).objs.push o ++ r.toArray = _
      simp

def startT (p : Program) : SharedT := ⟨.nil, 0, {}, #[], {}, 1, (start (opening p)).1.os⟩
theorem startT_abs (p : Program) : (startT p).abs = (start (opening p)).1 := rfl

/-- what is seen behind the top, by one run over a tree heap -/
def headObs {α β : Type} (stp : StpT) (aeb : Thread → Option (List Value)) (sok : Nat → Option Value → Thread → Bool) (fm : Program → Shared → Option Shared) (sta : Program → Shared × Thread)
    (nsm : Heap → Addr → Str → Option Value) (p : Program) (N : Nat) (w : World) (obs : Shared → α) (obs2 : Shared → β) : Option (Bool × α × β) :=
  (impT (stp (opening p) w) aeb N (startT p) (sta (opening p)).2).bind fun s =>
  (fm p s.abs).bind fun s₀ =>
  (toT s₀.heap.objs.toList .nil 0).bind fun Tn =>
  match s₀.heap.isNs mainGlobals && s₀.gens.size == 0 with
  | true => (topT (stp p w) (sok s₀.heap.objs.size (nsm s₀.heap mainGlobals "__annotations__")) N ⟨Tn.1, Tn.2, s₀.heap.life, s₀.gens, s₀.drawn, s₀.toks, s₀.os⟩ (topStub p)).bind fun s₁ =>
      some (staticsOk (importedModules p.main.body) s₀.heap s₁.abs.heap && namesBound p s₁.abs.heap && gensDone s₁.abs && laidKept s₀.heap s₁.abs.heap, obs s₁.abs, obs2 s₁.abs)
  | false => none

theorem headObs_spec {α β : Type} {tb : String → Option Builtin} {p : Program} {N : Nat} {w : World} {obs : Shared → α} {obs2 : Shared → β} {r : α × β}
    (h : headObs (stepT (denote tb)) Thread.atExitBegin stepOk fenceModules? start Heap.nsMap p N w obs obs2 = some (true, r)) :
    (openEnds tb p w N).map (fun s => (obs s, obs2 s)) = some r := by
  unfold headObs at h
  obtain ⟨s, h1, h⟩ := Option.bind_eq_some_iff.mp h
  obtain ⟨s₀, h2, h⟩ := Option.bind_eq_some_iff.mp h
  obtain ⟨⟨T, n⟩, h3, h⟩ := Option.bind_eq_some_iff.mp h
  have i := impT_spec h1
  rw [startT_abs] at i
  unfold openEnds fencedOpening
  rw [i]
  show ((fenceModules? p s.abs).bind _).map _ = _
  rw [h2]
  show (topFrom tb p w N s₀).map _ = _
  unfold topFrom
  cases hg : (s₀.heap.isNs mainGlobals && s₀.gens.size == 0) with
  | false => rw [hg] at h; cases h
  | true =>
    rw [hg] at h
    dsimp only at h ⊢
    obtain ⟨s₁, h4, h⟩ := Option.bind_eq_some_iff.mp h
    have t := topT_spec h4
    have ab : (⟨T, n, s₀.heap.life, s₀.gens, s₀.drawn, s₀.toks, s₀.os⟩ : SharedT).abs = s₀ := by
      have := toT_spec (life := s₀.heap.life) h3
      show Shared.mk (absHeap T n s₀.heap.life) _ _ _ _ = s₀
      rw [this]
      obtain ⟨⟨objs, life⟩, gens, drawn, toks, os⟩ := s₀
      show Shared.mk (Heap.mk (#[] ++ objs.toList.toArray) life) gens drawn toks os = _
      simp
    rw [ab] at t
    rw [t]
    show Option.map _ (match staticsOk (importedModules p.main.body) s₀.heap s₁.abs.heap && namesBound p s₁.abs.heap && gensDone s₁.abs && laidKept s₀.heap s₁.abs.heap with | true => some s₁.abs | false => none) = _
    have h' := Option.some.inj h
    have hs := congrArg Prod.fst h'
    have ho := congrArg Prod.snd h'
    dsimp only at hs ho
    rw [hs]
    exact congrArg some ho
end Mine

end
section
open PySem PySem.W PyProof.Rows
set_option Elab.async false
set_option maxRecDepth 100000
namespace Mine

/-- the parts of a def of the text -/
def nthS : List Stmt → Nat → Option Stmt
  | [], _ => none
  | x :: _, 0 => some x
  | _ :: r, n + 1 => nthS r n
def clsB : Option Stmt → List Stmt
  | some (.ClassDef _ _ _ b _ _ _ _ _ _ _) => b
  | _ => []
def prmOf : Option Stmt → Arguments
  | some (.FunctionDef _ a _ _ _ _ _ _ _ _) => a
  | _ => default
def bodOf : Option Stmt → List Stmt
  | some (.FunctionDef _ _ b _ _ _ _ _ _ _) => b
  | _ => []
def scpOf : Option Stmt → Scope
  | some (.FunctionDef _ _ _ _ _ _ sc _ _ _) => sc
  | _ => default
def defAtT (i : Nat) : Option Stmt := nthS PySem.Challenge.pw_mq0407_01.main.body i
def metAtT (i j : Nat) : Option Stmt := nthS (clsB (defAtT i)) j

@[reducible] noncomputable def indexA : Arguments := by
  refine (?f : (prmOf (defAtT 6) = ?x) → Arguments) ?h
  case h => (conv => lhs; whnf)
  case f => exact fun _ => ?x
@[reducible] noncomputable def indexB : List Stmt := by
  refine (?f : (bodOf (defAtT 6) = ?x) → List Stmt) ?h
  case h => (conv => lhs; whnf)
  case f => exact fun _ => ?x
@[reducible] noncomputable def indexS : Scope := by
  refine (?f : (scpOf (defAtT 6) = ?x) → Scope) ?h
  case h => (conv => lhs; whnf)
  case f => exact fun _ => ?x
@[reducible] noncomputable def ionewA : Arguments := by
  refine (?f : (prmOf (metAtT 8 1) = ?x) → Arguments) ?h
  case h => (conv => lhs; whnf)
  case f => exact fun _ => ?x
@[reducible] noncomputable def ionewB : List Stmt := by
  refine (?f : (bodOf (metAtT 8 1) = ?x) → List Stmt) ?h
  case h => (conv => lhs; whnf)
  case f => exact fun _ => ?x
@[reducible] noncomputable def ionewS : Scope := by
  refine (?f : (scpOf (metAtT 8 1) = ?x) → Scope) ?h
  case h => (conv => lhs; whnf)
  case f => exact fun _ => ?x
@[reducible] noncomputable def sioInitA : Arguments := by
  refine (?f : (prmOf (metAtT 12 1) = ?x) → Arguments) ?h
  case h => (conv => lhs; whnf)
  case f => exact fun _ => ?x
@[reducible] noncomputable def sioInitB : List Stmt := by
  refine (?f : (bodOf (metAtT 12 1) = ?x) → List Stmt) ?h
  case h => (conv => lhs; whnf)
  case f => exact fun _ => ?x
@[reducible] noncomputable def sioInitS : Scope := by
  refine (?f : (scpOf (metAtT 12 1) = ?x) → Scope) ?h
  case h => (conv => lhs; whnf)
  case f => exact fun _ => ?x
@[reducible] noncomputable def sioTrA : Arguments := by
  refine (?f : (prmOf (metAtT 12 2) = ?x) → Arguments) ?h
  case h => (conv => lhs; whnf)
  case f => exact fun _ => ?x
@[reducible] noncomputable def sioTrB : List Stmt := by
  refine (?f : (bodOf (metAtT 12 2) = ?x) → List Stmt) ?h
  case h => (conv => lhs; whnf)
  case f => exact fun _ => ?x
@[reducible] noncomputable def sioTrS : Scope := by
  refine (?f : (scpOf (metAtT 12 2) = ?x) → Scope) ?h
  case h => (conv => lhs; whnf)
  case f => exact fun _ => ?x
@[reducible] noncomputable def sioChkA : Arguments := by
  refine (?f : (prmOf (metAtT 12 3) = ?x) → Arguments) ?h
  case h => (conv => lhs; whnf)
  case f => exact fun _ => ?x
@[reducible] noncomputable def sioChkB : List Stmt := by
  refine (?f : (bodOf (metAtT 12 3) = ?x) → List Stmt) ?h
  case h => (conv => lhs; whnf)
  case f => exact fun _ => ?x
@[reducible] noncomputable def sioChkS : Scope := by
  refine (?f : (scpOf (metAtT 12 3) = ?x) → Scope) ?h
  case h => (conv => lhs; whnf)
  case f => exact fun _ => ?x
@[reducible] noncomputable def sioReadA : Arguments := by
  refine (?f : (prmOf (metAtT 12 25) = ?x) → Arguments) ?h
  case h => (conv => lhs; whnf)
  case f => exact fun _ => ?x
@[reducible] noncomputable def sioReadB : List Stmt := by
  refine (?f : (bodOf (metAtT 12 25) = ?x) → List Stmt) ?h
  case h => (conv => lhs; whnf)
  case f => exact fun _ => ?x
@[reducible] noncomputable def sioReadS : Scope := by
  refine (?f : (scpOf (metAtT 12 25) = ?x) → Scope) ?h
  case h => (conv => lhs; whnf)
  case f => exact fun _ => ?x
@[reducible] noncomputable def shInitA : Arguments := by
  refine (?f : (prmOf (metAtT 22 0) = ?x) → Arguments) ?h
  case h => (conv => lhs; whnf)
  case f => exact fun _ => ?x
@[reducible] noncomputable def shInitB : List Stmt := by
  refine (?f : (bodOf (metAtT 22 0) = ?x) → List Stmt) ?h
  case h => (conv => lhs; whnf)
  case f => exact fun _ => ?x
@[reducible] noncomputable def shInitS : Scope := by
  refine (?f : (scpOf (metAtT 22 0) = ?x) → Scope) ?h
  case h => (conv => lhs; whnf)
  case f => exact fun _ => ?x
@[reducible] noncomputable def shPunctA : Arguments := by
  refine (?f : (prmOf (metAtT 22 1) = ?x) → Arguments) ?h
  case h => (conv => lhs; whnf)
  case f => exact fun _ => ?x
@[reducible] noncomputable def shPunctB : List Stmt := by
  refine (?f : (bodOf (metAtT 22 1) = ?x) → List Stmt) ?h
  case h => (conv => lhs; whnf)
  case f => exact fun _ => ?x
@[reducible] noncomputable def shPunctS : Scope := by
  refine (?f : (scpOf (metAtT 22 1) = ?x) → Scope) ?h
  case h => (conv => lhs; whnf)
  case f => exact fun _ => ?x
@[reducible] noncomputable def getTokA : Arguments := by
  refine (?f : (prmOf (metAtT 22 5) = ?x) → Arguments) ?h
  case h => (conv => lhs; whnf)
  case f => exact fun _ => ?x
@[reducible] noncomputable def getTokB : List Stmt := by
  refine (?f : (bodOf (metAtT 22 5) = ?x) → List Stmt) ?h
  case h => (conv => lhs; whnf)
  case f => exact fun _ => ?x
@[reducible] noncomputable def getTokS : Scope := by
  refine (?f : (scpOf (metAtT 22 5) = ?x) → Scope) ?h
  case h => (conv => lhs; whnf)
  case f => exact fun _ => ?x
@[reducible] noncomputable def readTokA : Arguments := by
  refine (?f : (prmOf (metAtT 22 6) = ?x) → Arguments) ?h
  case h => (conv => lhs; whnf)
  case f => exact fun _ => ?x
@[reducible] noncomputable def readTokB : List Stmt := by
  refine (?f : (bodOf (metAtT 22 6) = ?x) → List Stmt) ?h
  case h => (conv => lhs; whnf)
  case f => exact fun _ => ?x
@[reducible] noncomputable def readTokS : Scope := by
  refine (?f : (scpOf (metAtT 22 6) = ?x) → Scope) ?h
  case h => (conv => lhs; whnf)
  case f => exact fun _ => ?x
@[reducible] noncomputable def shIterA : Arguments := by
  refine (?f : (prmOf (metAtT 22 9) = ?x) → Arguments) ?h
  case h => (conv => lhs; whnf)
  case f => exact fun _ => ?x
@[reducible] noncomputable def shIterB : List Stmt := by
  refine (?f : (bodOf (metAtT 22 9) = ?x) → List Stmt) ?h
  case h => (conv => lhs; whnf)
  case f => exact fun _ => ?x
@[reducible] noncomputable def shIterS : Scope := by
  refine (?f : (scpOf (metAtT 22 9) = ?x) → Scope) ?h
  case h => (conv => lhs; whnf)
  case f => exact fun _ => ?x
@[reducible] noncomputable def shNextA : Arguments := by
  refine (?f : (prmOf (metAtT 22 10) = ?x) → Arguments) ?h
  case h => (conv => lhs; whnf)
  case f => exact fun _ => ?x
@[reducible] noncomputable def shNextB : List Stmt := by
  refine (?f : (bodOf (metAtT 22 10) = ?x) → List Stmt) ?h
  case h => (conv => lhs; whnf)
  case f => exact fun _ => ?x
@[reducible] noncomputable def shNextS : Scope := by
  refine (?f : (scpOf (metAtT 22 10) = ?x) → Scope) ?h
  case h => (conv => lhs; whnf)
  case f => exact fun _ => ?x
@[reducible] noncomputable def splitA : Arguments := by
  refine (?f : (prmOf (defAtT 23) = ?x) → Arguments) ?h
  case h => (conv => lhs; whnf)
  case f => exact fun _ => ?x
@[reducible] noncomputable def splitB : List Stmt := by
  refine (?f : (bodOf (defAtT 23) = ?x) → List Stmt) ?h
  case h => (conv => lhs; whnf)
  case f => exact fun _ => ?x
@[reducible] noncomputable def splitS : Scope := by
  refine (?f : (scpOf (defAtT 23) = ?x) → Scope) ?h
  case h => (conv => lhs; whnf)
  case f => exact fun _ => ?x
@[reducible] noncomputable def joinSA : Arguments := by
  refine (?f : (prmOf (defAtT 24) = ?x) → Arguments) ?h
  case h => (conv => lhs; whnf)
  case f => exact fun _ => ?x
@[reducible] noncomputable def joinSB : List Stmt := by
  refine (?f : (bodOf (defAtT 24) = ?x) → List Stmt) ?h
  case h => (conv => lhs; whnf)
  case f => exact fun _ => ?x
@[reducible] noncomputable def joinSS : Scope := by
  refine (?f : (scpOf (defAtT 24) = ?x) → Scope) ?h
  case h => (conv => lhs; whnf)
  case f => exact fun _ => ?x
@[reducible] noncomputable def quoteA : Arguments := by
  refine (?f : (prmOf (defAtT 27) = ?x) → Arguments) ?h
  case h => (conv => lhs; whnf)
  case f => exact fun _ => ?x
@[reducible] noncomputable def quoteB : List Stmt := by
  refine (?f : (bodOf (defAtT 27) = ?x) → List Stmt) ?h
  case h => (conv => lhs; whnf)
  case f => exact fun _ => ?x
@[reducible] noncomputable def quoteS : Scope := by
  refine (?f : (scpOf (defAtT 27) = ?x) → Scope) ?h
  case h => (conv => lhs; whnf)
  case f => exact fun _ => ?x
@[reducible] noncomputable def parseA : Arguments := by
  refine (?f : (prmOf (defAtT 29) = ?x) → Arguments) ?h
  case h => (conv => lhs; whnf)
  case f => exact fun _ => ?x
@[reducible] noncomputable def parseB : List Stmt := by
  refine (?f : (bodOf (defAtT 29) = ?x) → List Stmt) ?h
  case h => (conv => lhs; whnf)
  case f => exact fun _ => ?x
@[reducible] noncomputable def parseS : Scope := by
  refine (?f : (scpOf (defAtT 29) = ?x) → Scope) ?h
  case h => (conv => lhs; whnf)
  case f => exact fun _ => ?x
@[reducible] noncomputable def cmdsA : Arguments := by
  refine (?f : (prmOf (defAtT 31) = ?x) → Arguments) ?h
  case h => (conv => lhs; whnf)
  case f => exact fun _ => ?x
@[reducible] noncomputable def cmdsB : List Stmt := by
  refine (?f : (bodOf (defAtT 31) = ?x) → List Stmt) ?h
  case h => (conv => lhs; whnf)
  case f => exact fun _ => ?x
@[reducible] noncomputable def cmdsS : Scope := by
  refine (?f : (scpOf (defAtT 31) = ?x) → Scope) ?h
  case h => (conv => lhs; whnf)
  case f => exact fun _ => ?x
@[reducible] noncomputable def wrdsA : Arguments := by
  refine (?f : (prmOf (defAtT 32) = ?x) → Arguments) ?h
  case h => (conv => lhs; whnf)
  case f => exact fun _ => ?x
@[reducible] noncomputable def wrdsB : List Stmt := by
  refine (?f : (bodOf (defAtT 32) = ?x) → List Stmt) ?h
  case h => (conv => lhs; whnf)
  case f => exact fun _ => ?x
@[reducible] noncomputable def wrdsS : Scope := by
  refine (?f : (scpOf (defAtT 32) = ?x) → Scope) ?h
  case h => (conv => lhs; whnf)
  case f => exact fun _ => ?x
@[reducible] noncomputable def lawA : Arguments := by
  refine (?f : (prmOf (defAtT 33) = ?x) → Arguments) ?h
  case h => (conv => lhs; whnf)
  case f => exact fun _ => ?x
@[reducible] noncomputable def lawB : List Stmt := by
  refine (?f : (bodOf (defAtT 33) = ?x) → List Stmt) ?h
  case h => (conv => lhs; whnf)
  case f => exact fun _ => ?x
@[reducible] noncomputable def lawS : Scope := by
  refine (?f : (scpOf (defAtT 33) = ?x) → Scope) ?h
  case h => (conv => lhs; whnf)
  case f => exact fun _ => ?x

noncomputable def KK (P : Params) : Frag :=
  (nat_lit 2, ⟨.none, none, .dict (List.toArray (⟨PyData.keyHash P (Str.ofString "\x69mport.loaded._sre"), .str (Str.ofString "\x69mport.loaded._sre") 183, .bool true⟩ :: ⟨PyData.keyHash P (Str.ofString "class._frozen_importlib.BuiltinImporter"), .str (Str.ofString "class._frozen_importlib.BuiltinImporter") 185, .ref 14⟩ :: ⟨PyData.keyHash P (Str.ofString "watched.\x69mport"), .str (Str.ofString "watched.\x69mport") 206, .ref 18⟩ :: ⟨PyData.keyHash P (Str.ofString "class._frozen_importlib.ModuleSpec"), .str (Str.ofString "class._frozen_importlib.ModuleSpec") 216, .ref 22⟩ :: ⟨PyData.keyHash P (Str.ofString "sys.modules.booked-epoch"), .str (Str.ofString "sys.modules.booked-epoch") 245, .int 4 0⟩ :: ⟨PyData.keyHash P (Str.ofString "\x69mport.later-laid._sre"), .str (Str.ofString "\x69mport.later-laid._sre") 270, .bool true⟩ :: ⟨PyData.keyHash P (Str.ofString "watched.library"), .str (Str.ofString "watched.library") 272, .ref 27⟩ :: ⟨PyData.keyHash P (Str.ofString "watched.library-objects"), .str (Str.ofString "watched.library-objects") 0, .str (Str.ofString "\x0c\x1e") 0⟩ :: ⟨PyData.keyHash P (Str.ofString "watched.library-deep._sre"), .str (Str.ofString "watched.library-deep._sre") 273, .str (Str.ofString "\x04\x00\x00\x0b\x04\x00\x00\x0b\x04\x00\x00\x03\x04\x00\x00\x0b\x08\x04dict\x02") 0⟩ :: ⟨PyData.keyHash P (Str.ofString "\x69mport.loaded._collections"), .str (Str.ofString "\x69mport.loaded._collections") 280, .bool true⟩ :: ⟨PyData.keyHash P (Str.ofString "sys.modules.landed._collections"), .str (Str.ofString "sys.modules.landed._collections") 294, .bool true⟩ :: ⟨PyData.keyHash P (Str.ofString "\x69mport.later-laid._collections"), .str (Str.ofString "\x69mport.later-laid._collections") 309, .bool true⟩ :: ⟨PyData.keyHash P (Str.ofString "watched.library-deep._collections"), .str (Str.ofString "watched.library-deep._collections") 311, .str (Str.ofString "\x04\x00\x00\x1d\x04\x00\x00\x1d\x04\x00\x00\x03\x04\x00\x00\x1d\x08\x04dict\x02") 0⟩ :: ⟨PyData.keyHash P (Str.ofString "type.__subclasses__.OSError.0"), .str (Str.ofString "type.__subclasses__.OSError.0") 407, .int 73 0⟩ :: ⟨PyData.keyHash P (Str.ofString "type.__subclasses__.OSError.n"), .str (Str.ofString "type.__subclasses__.OSError.n") 408, .int 1 0⟩ :: [])) 15, List.toArray ([])⟩)
  :: (nat_lit 3, ⟨.type "dict", none, .dict (List.toArray (⟨PyData.keyHash P (Str.ofString "__name__"), .str (Str.ofString "__name__") 165, .str (Str.ofString "law_mq0407_01") 1263⟩ :: ⟨PyData.keyHash P (Str.ofString "__doc__"), .str (Str.ofString "__doc__") 166, .none⟩ :: ⟨PyData.keyHash P (Str.ofString "__package__"), .str (Str.ofString "__package__") 167, .none⟩ :: ⟨PyData.keyHash P (Str.ofString "__loader__"), .str (Str.ofString "__loader__") 168, .builtin "__main__.__loader__#opaque"⟩ :: ⟨PyData.keyHash P (Str.ofString "__spec__"), .str (Str.ofString "__spec__") 169, .none⟩ :: ⟨PyData.keyHash P (Str.ofString "__annotations__"), .str (Str.ofString "__annotations__") 170, .ref 6⟩ :: ⟨PyData.keyHash P (Str.ofString "__builtins__"), .str (Str.ofString "__builtins__") 171, .ref 4⟩ :: ⟨PyData.keyHash P (Str.ofString "__file__"), .str (Str.ofString "__file__") 173, .str (Str.ofString "/claim/cut.py") 172⟩ :: ⟨PyData.keyHash P (Str.ofString "__cached__"), .str (Str.ofString "__cached__") 174, .none⟩ :: ⟨PyData.keyHash P (Str.ofString "_sre"), .str (Str.ofString "_sre") 275, .ref 12⟩ :: ⟨PyData.keyHash P (Str.ofString "deque"), .str (Str.ofString "deque") 317, .type "collections.deque"⟩ :: ⟨PyData.keyHash P (Str.ofString "_wall"), .str (Str.ofString "_wall") 330, .ref 44⟩ :: ⟨PyData.keyHash P (Str.ofString "_twin_re_1"), .str (Str.ofString "_twin_re_1") 370, .ref 49⟩ :: ⟨PyData.keyHash P (Str.ofString "_whence"), .str (Str.ofString "_whence") 380, .ref 56⟩ :: ⟨PyData.keyHash P (Str.ofString "_index"), .str (Str.ofString "_index") 388, .ref 63⟩ :: ⟨PyData.keyHash P (Str.ofString "UnsupportedOperation"), .str (Str.ofString "UnsupportedOperation") 410, .ref 73⟩ :: ⟨PyData.keyHash P (Str.ofString "IOBase"), .str (Str.ofString "IOBase") 442, .ref 93⟩ :: ⟨PyData.keyHash P (Str.ofString "BufferedIOBase"), .str (Str.ofString "BufferedIOBase") 460, .ref 108⟩ :: ⟨PyData.keyHash P (Str.ofString "TextIOBase"), .str (Str.ofString "TextIOBase") 478, .ref 120⟩ :: ⟨PyData.keyHash P (Str.ofString "BytesIO"), .str (Str.ofString "BytesIO") 740, .ref 350⟩ :: ⟨PyData.keyHash P (Str.ofString "StringIO"), .str (Str.ofString "StringIO") 1027, .ref 597⟩ :: ⟨PyData.keyHash P (Str.ofString "_kind"), .str (Str.ofString "_kind") 1038, .ref 606⟩ :: ⟨PyData.keyHash P (Str.ofString "_fspath"), .str (Str.ofString "_fspath") 1047, .ref 613⟩ :: ⟨PyData.keyHash P (Str.ofString "_check_arg_types"), .str (Str.ofString "_check_arg_types") 1057, .ref 620⟩ :: ⟨PyData.keyHash P (Str.ofString "isabs"), .str (Str.ofString "isabs") 1064, .ref 627⟩ :: ⟨PyData.keyHash P (Str.ofString "join"), .str (Str.ofString "join") 1075, .ref 751⟩ :: ⟨PyData.keyHash P (Str.ofString "join_path"), .str (Str.ofString "join_path") 1076, .ref 634⟩ :: ⟨PyData.keyHash P (Str.ofString "dirname"), .str (Str.ofString "dirname") 1086, .ref 641⟩ :: ⟨PyData.keyHash P (Str.ofString "shlex"), .str (Str.ofString "shlex") 1227, .ref 732⟩ :: ⟨PyData.keyHash P (Str.ofString "split"), .str (Str.ofString "split") 1237, .ref 744⟩ :: ⟨PyData.keyHash P (Str.ofString "join_shlex"), .str (Str.ofString "join_shlex") 1245, .ref 751⟩ :: ⟨PyData.keyHash P (Str.ofString "_find_unsafe"), .str (Str.ofString "_find_unsafe") 1247, .ref 752⟩ :: ⟨PyData.keyHash P (Str.ofString "quote"), .str (Str.ofString "quote") 1254, .ref 759⟩ :: ⟨PyData.keyHash P (Str.ofString "parse_http_list"), .str (Str.ofString "parse_http_list") 1262, .ref 764⟩ :: ⟨PyData.keyHash P (Str.ofString "_law_commands"), .str (Str.ofString "_law_commands") 1276, .ref 771⟩ :: ⟨PyData.keyHash P (Str.ofString "_law_words"), .str (Str.ofString "_law_words") 1287, .ref 778⟩ :: ⟨PyData.keyHash P (Str.ofString "law"), .str (Str.ofString "law") 1293, .ref 783⟩ :: [])) 37, List.toArray ([])⟩)
  :: (nat_lit 48, ⟨.type "tuple", none, .seq (List.toArray (.int 14 0 :: .int 17 0 :: .int 4 0 :: .int 1 0 :: .int 1 0 :: .int 21 0 :: .int 9 0 :: .int 0 0 :: .int 604043296 0 :: .int 1 0 :: .int 0 0 :: .int 0 0 :: .int 0 0 :: .int 0 0 :: .int 0 0 :: .int 8 0 :: .int 4 0 :: .int 0 0 :: .int 13 0 :: .int 14 0 :: .int 21 0 :: .int 9 0 :: .int 0 0 :: .int 604043296 0 :: .int 1 0 :: .int 0 0 :: .int 0 0 :: .int 0 0 :: .int 0 0 :: .int 0 0 :: .int 8 0 :: .int 4 0 :: .int 0 0 :: .int 1 0 :: [])) 0, List.toArray ([])⟩)
  :: (nat_lit 49, ⟨.type "re.Pattern", none, .fields (List.toArray (.str (Str.ofString "[^\\w@%+=:,./-]") 332 :: .int 256 369 :: .int 0 0 :: .none :: .none :: .ref 48 :: .int 0 0 :: [])), List.toArray ([])⟩)
  :: (nat_lit 62, ⟨.type "code", none, .fields (List.toArray (.str (Str.ofString "_index") 381 :: .str (Str.ofString "_index") 382 :: .str (Str.ofString "/claim/cut.py") 383 :: .int 13 0 :: .int 2 0 :: .int 0 0 :: .int 0 0 :: .int 3 0 :: .ref 57 :: .bool true :: .int 318 0 :: .ref 58 :: .none :: .ref 59 :: .ref 60 :: .ref 61 :: .int 386 0 :: .int 13 0 :: .str (Str.ofString "/claim/cut.py") 387 :: [])), List.toArray ([])⟩)
  :: (nat_lit 63, ⟨.type "function", none, .func { name := (Str.ofString "_index"), qualname := (Str.ofString "_index"), params := indexA, body := .stmts indexB, scope := indexS, globals := 3, closure := [], defaults := .none, kwdefaults := .none, doc := .none, pyModule := .str (Str.ofString "io") 371, annotations := none, code := .ref 62, closureTuple := .none, builtins := 0 }, List.toArray ([])⟩)
  :: (nat_lit 89, ⟨.type "code", none, .fields (List.toArray (.str (Str.ofString "__new__") 425 :: .str (Str.ofString "IOBase.__new__") 426 :: .str (Str.ofString "/claim/cut.py") 427 :: .int 25 0 :: .int 1 0 :: .int 1 0 :: .int 0 0 :: .int 15 0 :: .ref 84 :: .bool true :: .int 318 0 :: .ref 85 :: .none :: .ref 86 :: .ref 87 :: .ref 88 :: .int 431 0 :: .int 25 0 :: .str (Str.ofString "/claim/cut.py") 432 :: [])), List.toArray ([])⟩)
  :: (nat_lit 90, ⟨.type "function", none, .func { name := (Str.ofString "__new__"), qualname := (Str.ofString "IOBase.__new__"), params := ionewA, body := .stmts ionewB, scope := ionewS, globals := 3, closure := [], defaults := .none, kwdefaults := .none, doc := .none, pyModule := .str (Str.ofString "io") 371, annotations := none, code := .ref 89, closureTuple := .none, builtins := 0 }, List.toArray ([])⟩)
  :: (nat_lit 92, ⟨.type "dict", none, .dict (List.toArray (⟨PyData.keyHash P (Str.ofString "__module__"), .str (Str.ofString "__module__") 418, .str (Str.ofString "io") 423⟩ :: ⟨PyData.keyHash P (Str.ofString "__firstlineno__"), .str (Str.ofString "__firstlineno__") 422, .int 22 421⟩ :: ⟨PyData.keyHash P (Str.ofString "__new__"), .str (Str.ofString "__new__") 433, .ref 94⟩ :: ⟨PyData.keyHash P (Str.ofString "__static_attributes__"), .str (Str.ofString "__static_attributes__") 434, .ref 91⟩ :: ⟨PyData.keyHash P (Str.ofString "__dict__"), .str (Str.ofString "__dict__") 437, .ref 95⟩ :: ⟨PyData.keyHash P (Str.ofString "__weakref__"), .str (Str.ofString "__weakref__") 439, .ref 96⟩ :: ⟨PyData.keyHash P (Str.ofString "__doc__"), .str (Str.ofString "__doc__") 440, .none⟩ :: [])) 4, List.toArray ([])⟩)
  :: (nat_lit 93, ⟨.type "type", none, .cls { name := (Str.ofString "IOBase"), bases := (.type "object" :: []), mro := (.ref 93 :: .type "object" :: []), ns := 92, qualname := (Str.ofString "IOBase"), hasDict := true, slotNames := ([]), subclasses := (.ref 108 :: .ref 120 :: []), abstract := false, collection := none, hasDel := false }, List.toArray (none :: none :: some (.str (Str.ofString "IOBase") 411) :: some (.str (Str.ofString "IOBase") 419) :: some (.none) :: some (.bool true) :: [])⟩)
  :: (nat_lit 94, ⟨.type "staticmethod", none, .fields (List.toArray (.ref 90 :: [])), List.toArray ([])⟩)
  :: (nat_lit 95, ⟨.type "getset_descriptor", none, .fields (List.toArray (.str (Str.ofString "__dict__") 436 :: .ref 93 :: .builtin "function.__dict__" :: .builtin "function.__dict__#set" :: [])), List.toArray ([])⟩)
  :: (nat_lit 96, ⟨.type "getset_descriptor", none, .fields (List.toArray (.str (Str.ofString "__weakref__") 438 :: .ref 93 :: .builtin "ExceptionGroup.__weakref__" :: .none :: [])), List.toArray ([])⟩)
  :: (nat_lit 119, ⟨.type "dict", none, .dict (List.toArray (⟨PyData.keyHash P (Str.ofString "__module__"), .str (Str.ofString "__module__") 468, .str (Str.ofString "io") 473⟩ :: ⟨PyData.keyHash P (Str.ofString "__firstlineno__"), .str (Str.ofString "__firstlineno__") 472, .int 31 471⟩ :: ⟨PyData.keyHash P (Str.ofString "__static_attributes__"), .str (Str.ofString "__static_attributes__") 475, .ref 118⟩ :: ⟨PyData.keyHash P (Str.ofString "__doc__"), .str (Str.ofString "__doc__") 476, .none⟩ :: [])) 2, List.toArray ([])⟩)
  :: (nat_lit 120, ⟨.type "type", none, .cls { name := (Str.ofString "TextIOBase"), bases := (.ref 93 :: []), mro := (.ref 120 :: .ref 93 :: .type "object" :: []), ns := 119, qualname := (Str.ofString "TextIOBase"), hasDict := true, slotNames := ([]), subclasses := (.ref 597 :: []), abstract := false, collection := none, hasDel := false }, List.toArray (some (.ref 111) :: none :: some (.str (Str.ofString "TextIOBase") 461) :: some (.str (Str.ofString "TextIOBase") 469) :: some (.none) :: some (.bool true) :: [])⟩)
  :: (nat_lit 350, ⟨.type "type", none, .cls { name := (Str.ofString "BytesIO"), bases := (.ref 108 :: []), mro := (.ref 350 :: .ref 108 :: .ref 93 :: .type "object" :: []), ns := 349, qualname := (Str.ofString "BytesIO"), hasDict := true, slotNames := ([]), subclasses := ([]), abstract := false, collection := none, hasDel := false }, List.toArray (some (.ref 123) :: none :: some (.str (Str.ofString "BytesIO") 479) :: some (.str (Str.ofString "BytesIO") 487) :: some (.none) :: some (.bool true) :: [])⟩)
  :: (nat_lit 360, ⟨.type "tuple", none, .seq (List.toArray (.str (Str.ofString "") 755 :: .str (Str.ofString "\n") 756 :: [])) 0, List.toArray ([])⟩)
  :: (nat_lit 366, ⟨.type "code", none, .fields (List.toArray (.str (Str.ofString "__init__") 757 :: .str (Str.ofString "StringIO.__init__") 758 :: .str (Str.ofString "/claim/cut.py") 759 :: .int 206 0 :: .int 3 0 :: .int 0 0 :: .int 0 0 :: .int 3 0 :: .ref 361 :: .bool true :: .int 318 0 :: .ref 362 :: .none :: .ref 363 :: .ref 364 :: .ref 365 :: .int 763 0 :: .int 206 0 :: .str (Str.ofString "/claim/cut.py") 764 :: [])), List.toArray ([])⟩)
  :: (nat_lit 367, ⟨.type "function", none, .func { name := (Str.ofString "__init__"), qualname := (Str.ofString "StringIO.__init__"), params := sioInitA, body := .stmts sioInitB, scope := sioInitS, globals := 3, closure := [], defaults := .ref 360, kwdefaults := .none, doc := .none, pyModule := .str (Str.ofString "io") 371, annotations := none, code := .ref 366, closureTuple := .none, builtins := 0 }, List.toArray ([])⟩)
  :: (nat_lit 373, ⟨.type "code", none, .fields (List.toArray (.str (Str.ofString "__translated") 766 :: .str (Str.ofString "StringIO.__translated") 767 :: .str (Str.ofString "/claim/cut.py") 768 :: .int 219 0 :: .int 2 0 :: .int 0 0 :: .int 0 0 :: .int 3 0 :: .ref 368 :: .bool true :: .int 318 0 :: .ref 369 :: .none :: .ref 370 :: .ref 371 :: .ref 372 :: .int 772 0 :: .int 219 0 :: .str (Str.ofString "/claim/cut.py") 773 :: [])), List.toArray ([])⟩)
  :: (nat_lit 374, ⟨.type "function", none, .func { name := (Str.ofString "__translated"), qualname := (Str.ofString "StringIO.__translated"), params := sioTrA, body := .stmts sioTrB, scope := sioTrS, globals := 3, closure := [], defaults := .none, kwdefaults := .none, doc := .none, pyModule := .str (Str.ofString "io") 371, annotations := none, code := .ref 373, closureTuple := .none, builtins := 0 }, List.toArray ([])⟩)
  :: (nat_lit 380, ⟨.type "code", none, .fields (List.toArray (.str (Str.ofString "__check") 775 :: .str (Str.ofString "StringIO.__check") 776 :: .str (Str.ofString "/claim/cut.py") 777 :: .int 227 0 :: .int 1 0 :: .int 0 0 :: .int 0 0 :: .int 3 0 :: .ref 375 :: .bool true :: .int 318 0 :: .ref 376 :: .none :: .ref 377 :: .ref 378 :: .ref 379 :: .int 779 0 :: .int 227 0 :: .str (Str.ofString "/claim/cut.py") 780 :: [])), List.toArray ([])⟩)
  :: (nat_lit 381, ⟨.type "function", none, .func { name := (Str.ofString "__check"), qualname := (Str.ofString "StringIO.__check"), params := sioChkA, body := .stmts sioChkB, scope := sioChkS, globals := 3, closure := [], defaults := .none, kwdefaults := .none, doc := .none, pyModule := .str (Str.ofString "io") 371, annotations := none, code := .ref 380, closureTuple := .none, builtins := 0 }, List.toArray ([])⟩)
  :: (nat_lit 536, ⟨.type "tuple", none, .seq (List.toArray (.int (-1) 948 :: [])) 0, List.toArray ([])⟩)
  :: (nat_lit 542, ⟨.type "code", none, .fields (List.toArray (.str (Str.ofString "read") 949 :: .str (Str.ofString "StringIO.read") 950 :: .str (Str.ofString "/claim/cut.py") 951 :: .int 349 0 :: .int 2 0 :: .int 2 0 :: .int 0 0 :: .int 3 0 :: .ref 537 :: .bool true :: .int 318 0 :: .ref 538 :: .none :: .ref 539 :: .ref 540 :: .ref 541 :: .int 956 0 :: .int 349 0 :: .str (Str.ofString "/claim/cut.py") 957 :: [])), List.toArray ([])⟩)
  :: (nat_lit 543, ⟨.type "function", none, .func { name := (Str.ofString "read"), qualname := (Str.ofString "StringIO.read"), params := sioReadA, body := .stmts sioReadB, scope := sioReadS, globals := 3, closure := [], defaults := .ref 536, kwdefaults := .none, doc := .none, pyModule := .str (Str.ofString "io") 371, annotations := none, code := .ref 542, closureTuple := .none, builtins := 0 }, List.toArray ([])⟩)
  :: (nat_lit 596, ⟨.type "dict", none, .dict (List.toArray (⟨PyData.keyHash P (Str.ofString "__module__"), .str (Str.ofString "__module__") 748, .str (Str.ofString "_io") 753⟩ :: ⟨PyData.keyHash P (Str.ofString "__firstlineno__"), .str (Str.ofString "__firstlineno__") 752, .int 203 751⟩ :: ⟨PyData.keyHash P (Str.ofString "__init__"), .str (Str.ofString "__init__") 765, .ref 367⟩ :: ⟨PyData.keyHash P (Str.ofString "_StringIO__translated"), .str (Str.ofString "_StringIO__translated") 774, .ref 374⟩ :: ⟨PyData.keyHash P (Str.ofString "_StringIO__check"), .str (Str.ofString "_StringIO__check") 781, .ref 381⟩ :: ⟨PyData.keyHash P (Str.ofString "_StringIO__check_dot"), .str (Str.ofString "_StringIO__check_dot") 788, .ref 388⟩ :: ⟨PyData.keyHash P (Str.ofString "_StringIO__line"), .str (Str.ofString "_StringIO__line") 803, .ref 395⟩ :: ⟨PyData.keyHash P (Str.ofString "closed"), .str (Str.ofString "closed") 811, .ref 403⟩ :: ⟨PyData.keyHash P (Str.ofString "line_buffering"), .str (Str.ofString "line_buffering") 819, .ref 411⟩ :: ⟨PyData.keyHash P (Str.ofString "newlines"), .str (Str.ofString "newlines") 827, .ref 419⟩ :: ⟨PyData.keyHash P (Str.ofString "encoding"), .str (Str.ofString "encoding") 835, .ref 427⟩ :: ⟨PyData.keyHash P (Str.ofString "errors"), .str (Str.ofString "errors") 843, .ref 435⟩ :: ⟨PyData.keyHash P (Str.ofString "close"), .str (Str.ofString "close") 850, .ref 442⟩ :: ⟨PyData.keyHash P (Str.ofString "__enter__"), .str (Str.ofString "__enter__") 857, .ref 449⟩ :: ⟨PyData.keyHash P (Str.ofString "__exit__"), .str (Str.ofString "__exit__") 865, .ref 456⟩ :: ⟨PyData.keyHash P (Str.ofString "readable"), .str (Str.ofString "readable") 872, .ref 463⟩ :: ⟨PyData.keyHash P (Str.ofString "writable"), .str (Str.ofString "writable") 879, .ref 470⟩ :: ⟨PyData.keyHash P (Str.ofString "seekable"), .str (Str.ofString "seekable") 886, .ref 477⟩ :: ⟨PyData.keyHash P (Str.ofString "isatty"), .str (Str.ofString "isatty") 893, .ref 484⟩ :: ⟨PyData.keyHash P (Str.ofString "flush"), .str (Str.ofString "flush") 900, .ref 491⟩ :: ⟨PyData.keyHash P (Str.ofString "fileno"), .str (Str.ofString "fileno") 907, .ref 498⟩ :: ⟨PyData.keyHash P (Str.ofString "detach"), .str (Str.ofString "detach") 914, .ref 505⟩ :: ⟨PyData.keyHash P (Str.ofString "getvalue"), .str (Str.ofString "getvalue") 921, .ref 512⟩ :: ⟨PyData.keyHash P (Str.ofString "tell"), .str (Str.ofString "tell") 928, .ref 519⟩ :: ⟨PyData.keyHash P (Str.ofString "seek"), .str (Str.ofString "seek") 938, .ref 527⟩ :: ⟨PyData.keyHash P (Str.ofString "truncate"), .str (Str.ofString "truncate") 946, .ref 535⟩ :: ⟨PyData.keyHash P (Str.ofString "read"), .str (Str.ofString "read") 958, .ref 543⟩ :: ⟨PyData.keyHash P (Str.ofString "readline"), .str (Str.ofString "readline") 968, .ref 551⟩ :: ⟨PyData.keyHash P (Str.ofString "readlines"), .str (Str.ofString "readlines") 978, .ref 559⟩ :: ⟨PyData.keyHash P (Str.ofString "__iter__"), .str (Str.ofString "__iter__") 985, .ref 566⟩ :: ⟨PyData.keyHash P (Str.ofString "__next__"), .str (Str.ofString "__next__") 993, .ref 573⟩ :: ⟨PyData.keyHash P (Str.ofString "write"), .str (Str.ofString "write") 1005, .ref 580⟩ :: ⟨PyData.keyHash P (Str.ofString "writelines"), .str (Str.ofString "writelines") 1013, .ref 587⟩ :: ⟨PyData.keyHash P (Str.ofString "__repr__"), .str (Str.ofString "__repr__") 1020, .ref 594⟩ :: ⟨PyData.keyHash P (Str.ofString "__static_attributes__"), .str (Str.ofString "__static_attributes__") 1024, .ref 595⟩ :: ⟨PyData.keyHash P (Str.ofString "__doc__"), .str (Str.ofString "__doc__") 1025, .none⟩ :: [])) 2, List.toArray ([])⟩)
  :: (nat_lit 597, ⟨.type "type", none, .cls { name := (Str.ofString "StringIO"), bases := (.ref 120 :: []), mro := (.ref 597 :: .ref 120 :: .ref 93 :: .type "object" :: []), ns := 596, qualname := (Str.ofString "StringIO"), hasDict := true, slotNames := ([]), subclasses := ([]), abstract := false, collection := none, hasDel := false }, List.toArray (some (.ref 353) :: none :: some (.str (Str.ofString "StringIO") 741) :: some (.str (Str.ofString "StringIO") 749) :: some (.none) :: some (.bool true) :: [])⟩)
  :: (nat_lit 649, ⟨.type "tuple", none, .seq (List.toArray (.none :: .none :: .bool false :: .bool false :: [])) 0, List.toArray ([])⟩)
  :: (nat_lit 655, ⟨.type "code", none, .fields (List.toArray (.str (Str.ofString "__init__") 1101 :: .str (Str.ofString "shlex.__init__") 1102 :: .str (Str.ofString "/claim/cut.py") 1103 :: .int 475 0 :: .int 5 0 :: .int 0 0 :: .int 0 0 :: .int 3 0 :: .ref 650 :: .bool true :: .int 318 0 :: .ref 651 :: .none :: .ref 652 :: .ref 653 :: .ref 654 :: .int 1110 0 :: .int 475 0 :: .str (Str.ofString "/claim/cut.py") 1111 :: [])), List.toArray ([])⟩)
  :: (nat_lit 656, ⟨.type "function", none, .func { name := (Str.ofString "__init__"), qualname := (Str.ofString "shlex.__init__"), params := shInitA, body := .stmts shInitB, scope := shInitS, globals := 3, closure := [], defaults := .ref 649, kwdefaults := .none, doc := .none, pyModule := .str (Str.ofString "cpy313.shlex") 1087, annotations := none, code := .ref 655, closureTuple := .none, builtins := 0 }, List.toArray ([])⟩)
  :: (nat_lit 662, ⟨.type "code", none, .fields (List.toArray (.str (Str.ofString "punctuation_chars") 1113 :: .str (Str.ofString "shlex.punctuation_chars") 1114 :: .str (Str.ofString "/claim/cut.py") 1115 :: .int 516 0 :: .int 1 0 :: .int 0 0 :: .int 0 0 :: .int 3 0 :: .ref 657 :: .bool true :: .int 318 0 :: .ref 658 :: .none :: .ref 659 :: .ref 660 :: .ref 661 :: .int 1117 0 :: .int 516 0 :: .str (Str.ofString "/claim/cut.py") 1118 :: [])), List.toArray ([])⟩)
  :: (nat_lit 663, ⟨.type "function", none, .func { name := (Str.ofString "punctuation_chars"), qualname := (Str.ofString "shlex.punctuation_chars"), params := shPunctA, body := .stmts shPunctB, scope := shPunctS, globals := 3, closure := [], defaults := .none, kwdefaults := .none, doc := .none, pyModule := .str (Str.ofString "cpy313.shlex") 1087, annotations := none, code := .ref 662, closureTuple := .none, builtins := 0 }, List.toArray ([])⟩)
  :: (nat_lit 664, ⟨.type "property", none, .fields (List.toArray (.ref 663 :: .none :: .none :: .none :: .str (Str.ofString "punctuation_chars") 1120 :: .bool false :: [])), List.toArray ([])⟩)
  :: (nat_lit 692, ⟨.type "code", none, .fields (List.toArray (.str (Str.ofString "get_token") 1145 :: .str (Str.ofString "shlex.get_token") 1146 :: .str (Str.ofString "/claim/cut.py") 1147 :: .int 543 0 :: .int 1 0 :: .int 0 0 :: .int 0 0 :: .int 3 0 :: .ref 687 :: .bool true :: .int 318 0 :: .ref 688 :: .none :: .ref 689 :: .ref 690 :: .ref 691 :: .int 1154 0 :: .int 543 0 :: .str (Str.ofString "/claim/cut.py") 1155 :: [])), List.toArray ([])⟩)
  :: (nat_lit 693, ⟨.type "function", none, .func { name := (Str.ofString "get_token"), qualname := (Str.ofString "shlex.get_token"), params := getTokA, body := .stmts getTokB, scope := getTokS, globals := 3, closure := [], defaults := .none, kwdefaults := .none, doc := .none, pyModule := .str (Str.ofString "cpy313.shlex") 1087, annotations := none, code := .ref 692, closureTuple := .none, builtins := 0 }, List.toArray ([])⟩)
  :: (nat_lit 699, ⟨.type "code", none, .fields (List.toArray (.str (Str.ofString "read_token") 1157 :: .str (Str.ofString "shlex.read_token") 1158 :: .str (Str.ofString "/claim/cut.py") 1159 :: .int 570 0 :: .int 1 0 :: .int 0 0 :: .int 0 0 :: .int 3 0 :: .ref 694 :: .bool true :: .int 318 0 :: .ref 695 :: .none :: .ref 696 :: .ref 697 :: .ref 698 :: .int 1165 0 :: .int 570 0 :: .str (Str.ofString "/claim/cut.py") 1166 :: [])), List.toArray ([])⟩)
  :: (nat_lit 700, ⟨.type "function", none, .func { name := (Str.ofString "read_token"), qualname := (Str.ofString "shlex.read_token"), params := readTokA, body := .stmts readTokB, scope := readTokS, globals := 3, closure := [], defaults := .none, kwdefaults := .none, doc := .none, pyModule := .str (Str.ofString "cpy313.shlex") 1087, annotations := none, code := .ref 699, closureTuple := .none, builtins := 0 }, List.toArray ([])⟩)
  :: (nat_lit 721, ⟨.type "code", none, .fields (List.toArray (.str (Str.ofString "__iter__") 1185 :: .str (Str.ofString "shlex.__iter__") 1186 :: .str (Str.ofString "/claim/cut.py") 1187 :: .int 717 0 :: .int 1 0 :: .int 0 0 :: .int 0 0 :: .int 3 0 :: .ref 716 :: .bool true :: .int 318 0 :: .ref 717 :: .none :: .ref 718 :: .ref 719 :: .ref 720 :: .int 1189 0 :: .int 717 0 :: .str (Str.ofString "/claim/cut.py") 1190 :: [])), List.toArray ([])⟩)
  :: (nat_lit 722, ⟨.type "function", none, .func { name := (Str.ofString "__iter__"), qualname := (Str.ofString "shlex.__iter__"), params := shIterA, body := .stmts shIterB, scope := shIterS, globals := 3, closure := [], defaults := .none, kwdefaults := .none, doc := .none, pyModule := .str (Str.ofString "cpy313.shlex") 1087, annotations := none, code := .ref 721, closureTuple := .none, builtins := 0 }, List.toArray ([])⟩)
  :: (nat_lit 728, ⟨.type "code", none, .fields (List.toArray (.str (Str.ofString "__next__") 1192 :: .str (Str.ofString "shlex.__next__") 1193 :: .str (Str.ofString "/claim/cut.py") 1194 :: .int 720 0 :: .int 1 0 :: .int 0 0 :: .int 0 0 :: .int 3 0 :: .ref 723 :: .bool true :: .int 318 0 :: .ref 724 :: .none :: .ref 725 :: .ref 726 :: .ref 727 :: .int 1197 0 :: .int 720 0 :: .str (Str.ofString "/claim/cut.py") 1198 :: [])), List.toArray ([])⟩)
  :: (nat_lit 729, ⟨.type "function", none, .func { name := (Str.ofString "__next__"), qualname := (Str.ofString "shlex.__next__"), params := shNextA, body := .stmts shNextB, scope := shNextS, globals := 3, closure := [], defaults := .none, kwdefaults := .none, doc := .none, pyModule := .str (Str.ofString "cpy313.shlex") 1087, annotations := none, code := .ref 728, closureTuple := .none, builtins := 0 }, List.toArray ([])⟩)
  :: (nat_lit 731, ⟨.type "dict", none, .dict (List.toArray (⟨PyData.keyHash P (Str.ofString "__module__"), .str (Str.ofString "__module__") 1096, .str (Str.ofString "cpy313.shlex") 1087⟩ :: ⟨PyData.keyHash P (Str.ofString "__firstlineno__"), .str (Str.ofString "__firstlineno__") 1100, .int 473 1099⟩ :: ⟨PyData.keyHash P (Str.ofString "__init__"), .str (Str.ofString "__init__") 1112, .ref 656⟩ :: ⟨PyData.keyHash P (Str.ofString "punctuation_chars"), .str (Str.ofString "punctuation_chars") 1120, .ref 664⟩ :: ⟨PyData.keyHash P (Str.ofString "push_token"), .str (Str.ofString "push_token") 1128, .ref 671⟩ :: ⟨PyData.keyHash P (Str.ofString "push_source"), .str (Str.ofString "push_source") 1137, .ref 679⟩ :: ⟨PyData.keyHash P (Str.ofString "pop_source"), .str (Str.ofString "pop_source") 1144, .ref 686⟩ :: ⟨PyData.keyHash P (Str.ofString "get_token"), .str (Str.ofString "get_token") 1156, .ref 693⟩ :: ⟨PyData.keyHash P (Str.ofString "read_token"), .str (Str.ofString "read_token") 1167, .ref 700⟩ :: ⟨PyData.keyHash P (Str.ofString "sourcehook"), .str (Str.ofString "sourcehook") 1175, .ref 707⟩ :: ⟨PyData.keyHash P (Str.ofString "error_leader"), .str (Str.ofString "error_leader") 1184, .ref 715⟩ :: ⟨PyData.keyHash P (Str.ofString "__iter__"), .str (Str.ofString "__iter__") 1191, .ref 722⟩ :: ⟨PyData.keyHash P (Str.ofString "__next__"), .str (Str.ofString "__next__") 1199, .ref 729⟩ :: ⟨PyData.keyHash P (Str.ofString "__static_attributes__"), .str (Str.ofString "__static_attributes__") 1220, .ref 730⟩ :: ⟨PyData.keyHash P (Str.ofString "__dict__"), .str (Str.ofString "__dict__") 1222, .ref 733⟩ :: ⟨PyData.keyHash P (Str.ofString "__weakref__"), .str (Str.ofString "__weakref__") 1224, .ref 734⟩ :: ⟨PyData.keyHash P (Str.ofString "__doc__"), .str (Str.ofString "__doc__") 1225, .none⟩ :: [])) 4, List.toArray ([])⟩)
  :: (nat_lit 732, ⟨.type "type", none, .cls { name := (Str.ofString "shlex"), bases := (.type "object" :: []), mro := (.ref 732 :: .type "object" :: []), ns := 731, qualname := (Str.ofString "shlex"), hasDict := true, slotNames := ([]), subclasses := ([]), abstract := false, collection := none, hasDel := false }, List.toArray (none :: none :: some (.str (Str.ofString "shlex") 1089) :: some (.str (Str.ofString "shlex") 1097) :: some (.builtin "object.__new__") :: some (.bool true) :: [])⟩)
  :: (nat_lit 733, ⟨.type "getset_descriptor", none, .fields (List.toArray (.str (Str.ofString "__dict__") 1221 :: .ref 732 :: .builtin "function.__dict__" :: .builtin "function.__dict__#set" :: [])), List.toArray ([])⟩)
  :: (nat_lit 734, ⟨.type "getset_descriptor", none, .fields (List.toArray (.str (Str.ofString "__weakref__") 1223 :: .ref 732 :: .builtin "ExceptionGroup.__weakref__" :: .none :: [])), List.toArray ([])⟩)
  :: (nat_lit 737, ⟨.type "tuple", none, .seq (List.toArray (.bool false :: .bool true :: [])) 0, List.toArray ([])⟩)
  :: (nat_lit 743, ⟨.type "code", none, .fields (List.toArray (.str (Str.ofString "split") 1228 :: .str (Str.ofString "split") 1229 :: .str (Str.ofString "/claim/cut.py") 1230 :: .int 725 0 :: .int 3 0 :: .int 0 0 :: .int 0 0 :: .int 3 0 :: .ref 738 :: .bool true :: .int 318 0 :: .ref 739 :: .none :: .ref 740 :: .ref 741 :: .ref 742 :: .int 1235 0 :: .int 725 0 :: .str (Str.ofString "/claim/cut.py") 1236 :: [])), List.toArray ([])⟩)
  :: (nat_lit 744, ⟨.type "function", none, .func { name := (Str.ofString "split"), qualname := (Str.ofString "split"), params := splitA, body := .stmts splitB, scope := splitS, globals := 3, closure := [], defaults := .ref 737, kwdefaults := .none, doc := .none, pyModule := .str (Str.ofString "cpy313.shlex") 1087, annotations := none, code := .ref 743, closureTuple := .none, builtins := 0 }, List.toArray ([])⟩)
  :: (nat_lit 750, ⟨.type "code", none, .fields (List.toArray (.str (Str.ofString "join") 1238 :: .str (Str.ofString "join") 1239 :: .str (Str.ofString "/claim/cut.py") 1240 :: .int 733 0 :: .int 1 0 :: .int 0 0 :: .int 0 0 :: .int 3 0 :: .ref 745 :: .bool true :: .int 318 0 :: .ref 746 :: .none :: .ref 747 :: .ref 748 :: .ref 749 :: .int 1242 0 :: .int 733 0 :: .str (Str.ofString "/claim/cut.py") 1243 :: [])), List.toArray ([])⟩)
  :: (nat_lit 751, ⟨.type "function", none, .func { name := (Str.ofString "join"), qualname := (Str.ofString "join"), params := joinSA, body := .stmts joinSB, scope := joinSS, globals := 3, closure := [], defaults := .none, kwdefaults := .none, doc := .none, pyModule := .str (Str.ofString "cpy313.shlex") 1087, annotations := none, code := .ref 750, closureTuple := .none, builtins := 0 }, List.toArray ([])⟩)
  :: (nat_lit 752, ⟨.type "builtin_function_or_method", none, .fields (List.toArray (.builtin "re.Pattern.search" :: .ref 49 :: [])), List.toArray ([])⟩)
  :: (nat_lit 758, ⟨.type "code", none, .fields (List.toArray (.str (Str.ofString "quote") 1248 :: .str (Str.ofString "quote") 1249 :: .str (Str.ofString "/claim/cut.py") 1250 :: .int 737 0 :: .int 1 0 :: .int 0 0 :: .int 0 0 :: .int 3 0 :: .ref 753 :: .bool true :: .int 318 0 :: .ref 754 :: .none :: .ref 755 :: .ref 756 :: .ref 757 :: .int 1252 0 :: .int 737 0 :: .str (Str.ofString "/claim/cut.py") 1253 :: [])), List.toArray ([])⟩)
  :: (nat_lit 759, ⟨.type "function", none, .func { name := (Str.ofString "quote"), qualname := (Str.ofString "quote"), params := quoteA, body := .stmts quoteB, scope := quoteS, globals := 3, closure := [], defaults := .none, kwdefaults := .none, doc := .none, pyModule := .str (Str.ofString "cpy313.shlex") 1087, annotations := none, code := .ref 758, closureTuple := .none, builtins := 0 }, List.toArray ([])⟩)
  :: (nat_lit 763, ⟨.type "code", none, .fields (List.toArray (.str (Str.ofString "parse_http_list") 1257 :: .str (Str.ofString "parse_http_list") 1258 :: .str (Str.ofString "/claim/cut.py") 1259 :: .int 744 0 :: .int 1 0 :: .int 0 0 :: .int 0 0 :: .int 3 0 :: .ref 760 :: .bool true :: .int 318 0 :: .ref 761 :: .none :: .none :: .none :: .ref 762 :: .int 1260 0 :: .int 744 0 :: .str (Str.ofString "/claim/cut.py") 1261 :: [])), List.toArray ([])⟩)
  :: (nat_lit 764, ⟨.type "function", none, .func { name := (Str.ofString "parse_http_list"), qualname := (Str.ofString "parse_http_list"), params := parseA, body := .stmts parseB, scope := parseS, globals := 3, closure := [], defaults := .none, kwdefaults := .none, doc := .none, pyModule := .str (Str.ofString "cpy313.urllib.request") 1255, annotations := none, code := .ref 763, closureTuple := .none, builtins := 0 }, List.toArray ([])⟩)
  :: (nat_lit 770, ⟨.type "code", none, .fields (List.toArray (.str (Str.ofString "_law_commands") 1265 :: .str (Str.ofString "_law_commands") 1266 :: .str (Str.ofString "/claim/cut.py") 1267 :: .int 772 0 :: .int 1 0 :: .int 0 0 :: .int 0 0 :: .int 3 0 :: .ref 765 :: .bool true :: .int 318 0 :: .ref 766 :: .none :: .ref 767 :: .ref 768 :: .ref 769 :: .int 1274 0 :: .int 772 0 :: .str (Str.ofString "/claim/cut.py") 1275 :: [])), List.toArray ([])⟩)
  :: (nat_lit 771, ⟨.type "function", none, .func { name := (Str.ofString "_law_commands"), qualname := (Str.ofString "_law_commands"), params := cmdsA, body := .stmts cmdsB, scope := cmdsS, globals := 3, closure := [], defaults := .none, kwdefaults := .none, doc := .none, pyModule := .str (Str.ofString "law_mq0407_01") 1263, annotations := none, code := .ref 770, closureTuple := .none, builtins := 0 }, List.toArray ([])⟩)
  :: (nat_lit 777, ⟨.type "code", none, .fields (List.toArray (.str (Str.ofString "_law_words") 1277 :: .str (Str.ofString "_law_words") 1278 :: .str (Str.ofString "/claim/cut.py") 1279 :: .int 804 0 :: .int 2 0 :: .int 0 0 :: .int 0 0 :: .int 3 0 :: .ref 772 :: .bool true :: .int 318 0 :: .ref 773 :: .none :: .ref 774 :: .ref 775 :: .ref 776 :: .int 1285 0 :: .int 804 0 :: .str (Str.ofString "/claim/cut.py") 1286 :: [])), List.toArray ([])⟩)
  :: (nat_lit 778, ⟨.type "function", none, .func { name := (Str.ofString "_law_words"), qualname := (Str.ofString "_law_words"), params := wrdsA, body := .stmts wrdsB, scope := wrdsS, globals := 3, closure := [], defaults := .none, kwdefaults := .none, doc := .none, pyModule := .str (Str.ofString "law_mq0407_01") 1263, annotations := none, code := .ref 777, closureTuple := .none, builtins := 0 }, List.toArray ([])⟩)
  :: (nat_lit 782, ⟨.type "code", none, .fields (List.toArray (.str (Str.ofString "law") 1288 :: .str (Str.ofString "law") 1289 :: .str (Str.ofString "/claim/cut.py") 1290 :: .int 813 0 :: .int 1 0 :: .int 0 0 :: .int 0 0 :: .int 3 0 :: .ref 779 :: .bool true :: .int 318 0 :: .ref 780 :: .none :: .none :: .none :: .ref 781 :: .int 1291 0 :: .int 813 0 :: .str (Str.ofString "/claim/cut.py") 1292 :: [])), List.toArray ([])⟩)
  :: (nat_lit 783, ⟨.type "function", none, .func { name := (Str.ofString "law"), qualname := (Str.ofString "law"), params := lawA, body := .stmts lawB, scope := lawS, globals := 3, closure := [], defaults := .none, kwdefaults := .none, doc := .none, pyModule := .str (Str.ofString "law_mq0407_01") 1263, annotations := none, code := .ref 782, closureTuple := .none, builtins := 0 }, List.toArray ([])⟩)
  :: []
end Mine

end
section
open PySem PySem.W PySem.Calls PyProof.Rows
set_option Elab.async false
set_option maxRecDepth 100000
namespace Mine

abbrev prg : Program := PySem.Challenge.rw_mq0407_01.prog

/-- what lies around a call: no exception at hand -/
abbrev AF (dp un : Nat) (gd : Option (List Code)) (fr : Option (List Env)) : Around := { handled := none, depth := dp, frames := fr, guards := gd, units := un }
/-- the same, the frames known -/
abbrev AA (dp un : Nat) (gd : Option (List Code)) (outer : List Env) : Around := { handled := none, depth := dp, frames := some outer, guards := gd, units := un }

/-- the heap h holds all of g, and the footprint beside it -/
structure Pre (g h : Heap) (fp : List (Addr × Obj)) : Prop where
  keep : ∀ b o, g.get? b = some o → h.get? b = some o
  size : g.objs.size ≤ h.objs.size
  own : ∀ p ∈ fp, h.get? p.1 = some p.2 ∧ g.get? p.1 = none

theorem Pre.of_fr {g h : Heap} {L : Addr} {m : Str → Option Value} {news fp : List (Addr × Obj)} (F : Fr g L h m) (N : News g L h news) (hs : ∀ p ∈ fp, p ∈ news) : Pre g h fp :=
  ⟨F.keep, Nat.le_of_lt (Nat.lt_of_le_of_lt F.above F.ns.lt), fun p hp => ⟨(N p (hs p hp)).1, (N p (hs p hp)).2.2⟩⟩

theorem Pre.nil_of {g h : Heap} {fp : List (Addr × Obj)} (P : Pre g h fp) : Pre g h [] := ⟨P.keep, P.size, fun _ h => nomatch h⟩
theorem Pre.lt {g h : Heap} {fp : List (Addr × Obj)} (P : Pre g h fp) {p : Addr × Obj} (hp : p ∈ fp) : p.1 < h.objs.size := Heap.lt_size (P.own p hp).1

section
variable {w : World} {tp : Program} {loose : List Str} {mean : ExcName → Option Value} {mg mb : Str → Option Value} {base g : Heap} {outer : List Env} {s : Shared} {dp un : Nat} {gd : Option (List Code)} {R : Result → Shared → Prop} {fp : List (Addr × Obj)} {fr : Option (List Env)}

/-- a def of the written part is entered -/
theorem enter {name qual : Str} {params : Arguments} {body : List Stmt} {scope : Scope} {dV kV doc pm cdv ct oc : Value} {an od : Option Addr} {osl : Array (Option Value)} {f : Addr} {args : Args} {binds : List (Str × Value)}
    (P : Pre g s.heap fp) (X : (KK w.params).In g) (T : Top tp loose mean mg mb g)
    (ho : (KK w.params).lookup f = some ⟨oc, od, .func (fnOf name qual params body scope dV kV doc pm an cdv ct), osl⟩) (hcd : codeIn (KK w.params) cdv qual = true) (hroom : dp < recursionLimit)
    (hbind : BindsTo s (fnOf name qual params body scope dV kV doc pm an cdv ct) args binds) (hloc : ∀ y ∈ binds, scope.names.lookup y.1 = some .local)
    (h : ∀ L' h₁, Fr g L' h₁ (fun y => binds.reverse.lookup y) → News g L' h₁ fp → (∀ p ∈ fp, p.1 < L') →
      wpAny (model prg w) ((AF dp un gd fr).deeper (envOf qual scope L' f cdv)) (execs body (envOf qual scope L' f cdv))
        (fun fl s' => R (.ok (.ret (match fl with | .ret v => v | _ => .none))) s')
        (fun e s' => wpAny (model prg w) ((AF dp un gd fr).deeper (envOf qual scope L' f cdv)) (leaving (envOf qual scope L' f cdv) e) (fun _ s'' => R (.error e) s'') (fun e' s'' => R (.error e') s'') s')
        { s with heap := h₁, toks := s.toks + binds.length })
    (hcell : ∀ x ∈ scope.names, x.2 ≠ .cell) (hco : scope.isCoroutine = false) (hgen : scope.isGenerator = false) (hk : scope.kind = .function) :
    codeAny (model prg w) (AF dp un gd fr) (.call (.ref f) args) R s := by
  have X' := X.keeps P.keep
  refine codeAny_call_def (fd := fnOf name qual params body scope dV kV doc pm an cdv ct) (body := body) (binds := binds) hroom (X' _ _ ho) rfl (T.nolimit.keeps P.keep) (codeRec_of X' hcd) rfl hbind hcell hloc (fun h₁ hns hk₁ => ?_) hco hgen hk
  exact h s.heap.objs.size h₁ ⟨hns, fun b o e => hk₁ b o (P.keep b o e), P.size⟩ (fun p hp => ⟨hk₁ _ _ (P.own p hp).1, Nat.ne_of_lt (P.lt hp), (P.own p hp).2⟩) fun p hp => P.lt hp

/-- at a call within a def's walk: what is not the callee's lies under it -/
theorem under {A₀ A : Around} {L : Addr} {m : Str → Option Value} {news : List (Addr × Obj)} {env : Env} (B : Below A₀ base outer g) (F : Fr g L s.heap m) (X : (KK w.params).In g) (N : News g L s.heap news) (T : Top tp loose mean mg mb g)
    (hA : A.frames = some (env :: outer)) (hf : env.frame = some L) (hke : env.scope.kind = .function) (hs : ∀ p ∈ fp, p ∈ news) :
    ∃ g', Below A base (env :: outer) g' ∧ (KK w.params).In g' ∧ Top tp loose mean mg mb g' ∧ Pre g' s.heap fp ∧ (∀ b o, g'.get? b = some o → s.heap.get? b = some o) ∧
      ∀ h' fp', Pre g' h' fp' → Fr g L h' m ∧ ∀ rest, (∀ p ∈ rest, p ∈ news ∧ ∀ q ∈ fp, p.1 ≠ q.1) → News g L h' (fp' ++ rest) := by
  have N' : News g L s.heap fp := fun p hp => N p (hs p hp)
  obtain ⟨FG, BG, st, _⟩ := groundX (R := fun _ _ => True) B F N' hA hf hke
  have st' : ∀ b o, g.get? b = some o → (hideAll s.heap (fp.map (fun x => x.1))).get? b = some o := st
  refine ⟨hideAll s.heap (fp.map (fun x => x.1)), BG, X.keeps st', T.keeps st', ⟨fun b o e => of_hideAll _ e, Nat.le_of_eq (hideAll_size _ _), fun p hp => ⟨(N' p hp).1, hideAll_none _ (List.mem_map_of_mem hp)⟩⟩, fun b o e => of_hideAll _ e, fun h' fp' P => ?_⟩
  obtain ⟨oL, es, ep, hL, r⟩ := FG.ns
  refine ⟨⟨⟨oL, es, ep, P.keep _ _ hL, r⟩, fun b o e => P.keep b o (st b o e), F.above⟩, fun rest hr p hp => ?_⟩
  rcases List.mem_append.mp hp with hp | hp
  · have q := P.own p hp
    refine ⟨q.1, fun z => ?_, ?_⟩
    · rw [z, hL] at q; cases q.2
    · cases e : g.get? p.1 with
      | none => rfl
      | some o => have := q.2; rw [st _ _ e] at this; cases this
  · obtain ⟨hn, hd⟩ := hr p hp
    refine ⟨P.keep _ _ (hideAll_get _ (N p hn).1 fun z => ?_), (N p hn).2⟩
    obtain ⟨q, hq, e⟩ := List.mem_map.mp z
    exact hd q hq e.symm
end
/-- a post given a name, so that the goals stay small -/
def PQ (Q : Flow → Shared → Prop) (f : Flow) (s : Shared) : Prop := Q f s
def Imp (P Q : Flow → Shared → Prop) : Prop := ∀ f s, P f s → PQ Q f s
theorem pq_of {P Q : Flow → Shared → Prop} {f : Flow} {s : Shared} (h : Imp P Q) (x : P f s) : PQ Q f s := h f s x
theorem execs_gen {M : Model} {A : Around} {E : Value → Shared → Prop} {s : Shared} {env : Env} {st : Stmt} {rest : List Stmt} {Q : Flow → Shared → Prop}
    (h : ∀ Q' : Flow → Shared → Prop, Imp (fun f s' => match f with | .next => wpAny M A (execs rest env) Q E s' | f => Q f s') Q' → wpAny M A (exec st env) (PQ Q') E s) : wpAny M A (execs (st :: rest) env) Q E s :=
  wpAny_execs_cons (wpAny_mono (h _ fun _ _ x => x) (fun _ _ x => x) fun _ _ x => x)
theorem room0 {a k n : Nat} (h : a + k < n) : a < n := Nat.lt_of_le_of_lt (Nat.le_add_right _ _) h
theorem room1 {a i k n : Nat} (h : a + k < n) (hi : Nat.ble i k = true) : a + i < n := Nat.lt_of_le_of_lt (Nat.add_le_add_left (Nat.le_of_ble_eq_true hi) _) h
theorem room2 {a i j k n : Nat} (h : a + k < n) (hi : Nat.ble (i + j) k = true) : a + i + j < n := by rw [Nat.add_assoc]; exact room1 h hi
theorem room3 {a i j l k n : Nat} (h : a + k < n) (hi : Nat.ble (i + (j + l)) k = true) : a + i + j + l < n := by rw [Nat.add_assoc, Nat.add_assoc]; exact room1 h hi
end Mine

end
section
open PySem PySem.W PySem.Calls PyProof.Rows PyProof.V
set_option Elab.async false
set_option maxRecDepth 100000
set_option maxHeartbeats 100000
namespace Mine
abbrev dqT : String := "collections.deque"
abbrev dqN : String := "collections.deque.__new__"
abbrev dqI : String := "collections.deque.__init__"
theorem dq_notType : (Value.type dqT == Value.type "type") = false := by decide +kernel
theorem dq_canMake : ((Manifest.find? dqT).bind fun x => List.findSome? (fun t => (Manifest.find? t).bind fun b =>
    if b.noNew = true then some true else if (b.attrs.any fun x => x.fst == "__new__") = true then some false else none) x.mro).getD false = false := by kernel_rfl
theorem dq_vec : checkTypeCall dqT ⟨[], []⟩ = pure () := by kernel_rfl
theorem dq_mro : ∃ m, mroOf (.type dqT) = pure m ∧ m.isEmpty = false := ⟨[.type dqT, .type "object"], by rw [mroOf_type]; kernel_rfl, rfl⟩
theorem dq_madeBy : Bind.madeBy (.type dqT) = pure (some dqN) := by kernel_rfl
theorem dq_newOk : checkBuiltinCall dqN ⟨[.type dqT], []⟩ = pure () := by kernel_rfl
theorem dq_sub : isSubtype (.type dqT) (.type dqT) = pure true := by rw [isSubtype_type]; kernel_rfl
theorem dq_init : Slot dqT "__init__" dqI := .of (owner := dqT) (n := "__init__") (by rw [typeLookup_type, builtinLookup_eq_fast]; kernel_rfl) (by decide +kernel) (by decide +kernel) (by decide +kernel)
    (by first | exact .inl (by decide +kernel) | exact .inr (by decide +kernel)) (by rw [isSubtype_type]; kernel_rfl)
theorem dq_newEntry : entryFor table dqN = some Builtin.«collections.deque.__new__» := by first | exact entryFor_of_fast (by kernel_rfl) | exact entryFor_of_tree (by kernel_rfl)
theorem dq_initEntry : entryFor table dqI = some Builtin.«collections.deque.__init__» := by first | exact entryFor_of_fast (by kernel_rfl) | exact entryFor_of_tree (by kernel_rfl)
theorem dq_quiet : dqN.startsWith "lifetime." = false := by decide +kernel
theorem dq_initSplit : splitId dqI = some (dqT, "__init__") := by kernel_rfl
theorem dq_initKind : builtinKind dqI = some .slot := by kernel_rfl
theorem dq_initArgs (a : Value) : argsOk dqI ⟨[a], []⟩ := by unfold argsOk; kernel_rfl
theorem dq_dict : typeHasDict (.type dqT) = false := by kernel_rfl
abbrev dqObj : Obj := { cls := .type dqT, data := .fields #[.none, .int 0 0] }
section
variable {prog : Program} {w : World} {A : Around} {E : Value → Shared → Prop} {s : Shared}
theorem dq_new {R : Result → Shared → Prop} (h : R (.ok (.ret (.ref s.heap.objs.size))) { s with heap := s.heap.push dqObj }) : codeAny (model prog w) A (.builtin dqN ⟨[.type dqT], []⟩) R s := by
  refine codeAny_builtin dq_newEntry ?_
  unfold Builtin.«collections.deque.__new__» Builtin.Deque.newArgs
  dsimp only
  refine wpAny_bind (wpAny_bind (m := isType (.type dqT)) (wpAny_pure ?_))
  rw [if_neg (by decide)]
  refine wpAny_pure ?_
  refine wpAny_bind ?_
  unfold Builtin.Deque.new
  rw [if_neg (by decide), dq_dict, if_neg (by decide)]
  refine wpAny_bind (wpAny_pure ?_)
  exact wpAny_newObj_type (wpAny_pure h) (by show 2 ≤ sizeLine + 2; decide)
theorem dq_initB {Q : Fin → Shared → Prop} {e : Addr} (he : s.heap.get? e = some dqObj) (h : ∀ h', (∀ b, h'.get? b = s.heap.get? b) → h'.objs.size = s.heap.objs.size → Q (.done (.ret .none)) { s with heap := h' }) :
    wpAny (model prog w) A (Builtin.«collections.deque.__init__» ⟨[.ref e], []⟩) Q E s := by
  unfold Builtin.«collections.deque.__init__»
  dsimp only
  rw [if_neg (by decide)]
  refine wpAny_bind (wpAny_pure (wpAny_bind (wpAny_pure (wpAny_bind (wpAny_pure ?_)))))
  refine wpAny_bind (wpAny_setField he rfl (by show 0 < 2; decide) ?_)
  have e2 : (s.heap.update e (Obj.mapFields (·.setIfInBounds 0 .none))).get? e = some dqObj := by
    rw [Heap.get?_update_self _ he rfl]
    rfl
  have all : ∀ b, (s.heap.update e (Obj.mapFields (·.setIfInBounds 0 .none))).get? b = s.heap.get? b := fun b => by
    by_cases h : e = b
    · subst h; rw [e2, he]
    · rw [Heap.get?_update_other _ _ h]
  refine wpAny_bind ?_
  unfold Builtin.Deque.clear Builtin.Deque.items
  refine wpAny_bind (wpAny_bind (wpAny_fieldsOf e2 rfl (wpAny_pure ?_)))
  rw [if_neg (by decide)]
  exact wpAny_pure (wpAny_pure (h _ all (Heap.size_update ..)))
theorem noBool_dq : typeLookup (.type dqT) "__bool__" = pure none := by rw [typeLookup_type, builtinLookup_eq_fast]; kernel_rfl
theorem dq_len : Slot dqT "__len__" "collections.deque.__len__" := .of (owner := dqT) (n := "__len__") (by rw [typeLookup_type, builtinLookup_eq_fast]; kernel_rfl) (by decide +kernel) (by decide +kernel) (by decide +kernel)
    (by first | exact .inl (by decide +kernel) | exact .inr (by decide +kernel)) (by rw [isSubtype_type]; kernel_rfl)
theorem dq_lenEntry : entryFor table "collections.deque.__len__" = some Builtin.«collections.deque.__len__» := by first | exact entryFor_of_fast (by kernel_rfl) | exact entryFor_of_tree (by kernel_rfl)
theorem dq_lenKind : builtinKind "collections.deque.__len__" = some .slot := by kernel_rfl
theorem dq_lenSplit : splitId "collections.deque.__len__" = some (dqT, "__len__") := by kernel_rfl
theorem dq_lenArgs (a : Value) : argsOk "collections.deque.__len__" ⟨[a], []⟩ := by unfold argsOk; kernel_rfl
end
end Mine

end
section
open PySem PySem.W PySem.Calls PyProof.Rows PyProof.V
set_option Elab.async false
set_option maxRecDepth 100000
set_option maxHeartbeats 200000
namespace Mine
section
variable {prog : Program} {w : World} {A : Around} {E : Value → Shared → Prop} {s : Shared}
theorem dq_call {Q : Value → Shared → Prop} (h : ∀ h', (∀ b o, s.heap.get? b = some o → h'.get? b = some o) → h'.get? s.heap.objs.size = some dqObj → h'.objs.size = s.heap.objs.size + 1 → Q (.ref s.heap.objs.size) { s with heap := h' }) :
    wpAny (model prog w) A (call (.type dqT) []) Q E s := by
  refine wpAny_call (codeAny_of_tree ?_)
  show wpAny _ _ (callAny (.type dqT) ⟨[], []⟩) _ _ _
  simp only [callAny]
  refine wpAny_pure ⟨Code.quiet_builtin _ (by decide +kernel), codeAny_builtin entry_type_call ?_⟩
  obtain ⟨hp, g, d, tk, os⟩ := s
  have hnt := dq_notType
  have hcan := dq_canMake
  have hchk := dq_vec
  obtain ⟨m, hmro, hne⟩ := dq_mro
  have hmade := dq_madeBy
  have hget : (hp.push dqObj).get? hp.objs.size = some dqObj := Heap.get?_push_size _ rfl
  wp_walk
  refine codeAny_call_builtin_code (Code.quiet_builtin _ dq_quiet) (wpAny_of_eq dq_newOk ?_)
  refine dq_new (s := ⟨hp, g, d, tk, os⟩) ?_
  dsimp only at h ⊢
  refine wpAny_bind (wpAny_isInstance ⟨_, hget, rfl⟩ dq_sub ?_)
  rw [if_neg (by decide)]
  have hT : Shared.TypeIs ⟨hp.push dqObj, g, d, tk, os⟩ (.ref hp.objs.size) dqT := ⟨_, hget, rfl⟩
  have ls : Looks (model prog w) (hp.push dqObj) (isInstance (.ref hp.objs.size) (.type dqT)) true := by
    intro A Q E s k q
    exact wpAny_isInstance ⟨_, k _ _ hget, rfl⟩ dq_sub q
  refine wpAny_bind (wpAny_holding (wpAny_callSpecial?_slot hT dq_init (wpAny_call (codeAny_call_builtin dq_init.plain dq_initEntry ?_))))
  refine dq_init.check _ _ _ _ _ _ _ _ hT (dq_initArgs _) ?_
  refine dq_initB (s := ⟨hp.push dqObj, g, d, tk, os⟩) hget fun h' k sz => ?_
  dsimp only at k sz ⊢
  rw [if_neg (by decide)]
  refine wpAny_pure ?_
  refine h h' (fun b o e => by rw [k]; exact Heap.get?_push_of_some _ e) (by rw [k]; exact hget) (by rw [sz]; exact Heap.size_push ..)

theorem dq_lenBody {e : Addr} {Q : Value → Shared → Prop} (he : s.heap.get? e = some dqObj)
    (h : Q (.int 0 (s.toks + 1)) { s with toks := s.toks + 1 + 1 }) : wpAny (model prog w) A (Builtin.«len» ⟨[.ref e], []⟩) (fun fin s' => ∃ r, fin = .done (.ret r) ∧ Q r s') E s := by
  have hT : s.TypeIs (.ref e) dqT := ⟨_, he, rfl⟩
  have ls : Looks (model prog w) s.heap (isInstance (.ref e) (.type dqT)) true := by
    intro A Q E s k q
    exact wpAny_isInstance ⟨_, k _ _ he, rfl⟩ dq_sub q
  unfold Builtin.«len»
  refine wpAny_bind (m := oneArg "len" _) (wpAny_pure ?_)
  obtain ⟨hp, g, d, tk, os⟩ := s
  refine wpAny_bind (m := callSpecial? (.ref e) (Str.ofString "__len__")) (wpAny_callSpecial?_slot (name := Str.ofString "__len__") hT dq_len (wpAny_call (codeAny_call_builtin dq_len.plain dq_lenEntry ?_)))
  refine dq_len.check _ _ _ _ _ _ _ _ hT (dq_lenArgs _) ?_
  unfold Builtin.«collections.deque.__len__» Builtin.Deque.size
  refine wpAny_bind (wpAny_pure ?_)
  refine wpAny_bind (wpAny_bind (wpAny_fieldsOf he rfl (wpAny_pure ?_)))
  refine wpAny_bind (wpAny_mkInt (wpAny_pure ?_))
  refine wpAny_bind (wpAny_holding (wpAny_pure ?_))
  refine wpAny_bind (wpAny_letGo ?_)
  exact wpAny_bind (wpAny_mkInt (wpAny_pure ⟨_, rfl, h⟩))
theorem dq_truthy {e : Addr} {Q : Bool → Shared → Prop} (he : s.heap.get? e = some dqObj) (h : Q false { s with toks := s.toks + 1 + 1 }) : wpAny (model prog w) A (truthy (.ref e)) Q E s := by
  have hT : s.TypeIs (.ref e) dqT := ⟨_, he, rfl⟩
  have key : wpAny (model prog w) A (runValue (.builtin "len" ⟨[.ref e], []⟩)) (fun r s' => r = .int 0 (s.toks + 1) ∧ Q false s') E s := by
    refine wpAny_runValue (codeAny_builtin entry_len ?_)
    rw [Around.under_plainId plain_len _]
    exact wpAny_mono (dq_lenBody (Q := fun r s' => r = .int 0 (s.toks + 1) ∧ Q false s') he ⟨rfl, h⟩)
      (fun fin s' h' => by obtain ⟨r, rfl, hq⟩ := h'; exact hq) fun _ _ e => e
  unfold truthy
  first
    | refine wpAny_bind (wpAny_callSpecial?_none (name := Str.ofString "__bool__") hT noBool_dq ?_)
    | refine wpAny_bind (wpAny_pure (wpAny_bind (wpAny_callSpecial?_none (name := Str.ofString "__bool__") hT noBool_dq ?_)))
  first
    | refine wpAny_bind (wpAny_specialOf (name := Str.ofString "__len__") hT dq_len.lookup ?_)
    | refine wpAny_bind (wpAny_pure (wpAny_bind (wpAny_specialOf (name := Str.ofString "__len__") hT dq_len.lookup ?_)))
  first
    | exact wpAny_bind (wpAny_mono key (fun r s' h' => by obtain ⟨rfl, hq⟩ := h'; exact wpAny_pure hq) fun _ _ e => e)
    | exact wpAny_bind (wpAny_pure (wpAny_bind (wpAny_mono key (fun r s' h' => by obtain ⟨rfl, hq⟩ := h'; exact wpAny_pure hq) fun _ _ e => e)))
end
end Mine

end
section
open PySem PySem.W PySem.Calls PyProof.Rows
set_option Elab.async false
set_option maxRecDepth 100000
namespace Mine
/-- the tokens of a shlex object's names and fixed texts -/
structure ShT where
  k0 : Tok
  k1 : Tok
  k2 : Tok
  k3 : Tok
  k4 : Tok
  k5 : Tok
  k6 : Tok
  k7 : Tok
  k8 : Tok
  k9 : Tok
  k10 : Tok
  k11 : Tok
  k12 : Tok
  k13 : Tok
  k14 : Tok
  k15 : Tok
  k16 : Tok
  k17 : Tok
  k18 : Tok
  v5 : Tok
  v6 : Tok
  v8 : Tok
  v9 : Tok
  v10 : Tok
  v14 : Tok
  v18 : Tok
structure SiT where
  k0 : Tok
  k1 : Tok
  k2 : Tok
  v0 : Tok
  v1 : Tok
@[reducible] def ent (P : Params) (n : Str) (t : Tok) (v : Value) : DictEntry := { hash := PyData.keyHash P n, key := .str n t, val := v }
/-- a shlex object's dict -/
@[reducible] def shEs (P : Params) (k : ShT) (x : Addr) (com : Value) (wc : Str) (sp : Bool) (st : Value) (pb : Addr) (ln : Value) (tok : Value) (fs : Addr) : List DictEntry :=
  [ent P (Str.ofString "instream") k.k0 (.ref x), ent P (Str.ofString "infile") k.k1 .none, ent P (Str.ofString "posix") k.k2 (.bool true), ent P (Str.ofString "eof") k.k3 .none,
   ent P (Str.ofString "commenters") k.k4 com, ent P (Str.ofString "wordchars") k.k5 (.str wc k.v5), ent P (Str.ofString "whitespace") k.k6 (.str (Str.ofString " \t\r\n") k.v6), ent P (Str.ofString "whitespace_split") k.k7 (.bool sp),
   ent P (Str.ofString "quotes") k.k8 (.str (Str.ofString "'\"") k.v8), ent P (Str.ofString "escape") k.k9 (.str (Str.ofString "\\") k.v9), ent P (Str.ofString "escapedquotes") k.k10 (.str (Str.ofString "\"") k.v10),
   ent P (Str.ofString "state") k.k11 st, ent P (Str.ofString "pushback") k.k12 (.ref pb), ent P (Str.ofString "lineno") k.k13 ln, ent P (Str.ofString "debug") k.k14 (.int 0 k.v14), ent P (Str.ofString "token") k.k15 tok,
   ent P (Str.ofString "filestack") k.k16 (.ref fs), ent P (Str.ofString "source") k.k17 .none, ent P (Str.ofString "_punctuation_chars") k.k18 (.str (Str.ofString "") k.v18)]
@[reducible] def siEs (P : Params) (k : SiT) (buf : Str) (pos : Value) : List DictEntry :=
  [ent P (Str.ofString "_StringIO__newline") k.k0 (.str (Str.ofString "\n") k.v0), ent P (Str.ofString "_StringIO__buf") k.k1 (.str buf k.v1), ent P (Str.ofString "_StringIO__pos") k.k2 pos]
/-- the word signs bear no mark -/
def WcOk (wc : Str) : Prop := wc.length ≤ 1000 ∧ decide (39 ∈ wc.cps.toList) = false ∧ decide (34 ∈ wc.cps.toList) = false
theorem sub_cons {q : Addr × Obj} {l news : List (Addr × Obj)} (h : q ∈ news) (t : ∀ p ∈ l, p ∈ news) : ∀ p ∈ q :: l, p ∈ news := fun p hp => by
  rcases List.mem_cons.mp hp with rfl | hp
  · exact h
  · exact t p hp
theorem sub_nil {news : List (Addr × Obj)} : ∀ p ∈ ([] : List (Addr × Obj)), p ∈ news := fun _ h => nomatch h
end Mine

end
section
open PySem PySem.W PySem.Calls PyProof.Rows
set_option Elab.async false
set_option maxRecDepth 100000
set_option maxHeartbeats 2000000
set_option compiler.extract_closed false
namespace Mine
theorem fillK_I : (PySem.Challenge.rw_mq0407_01 = PySem.Challenge.rw_mq0407_01) ∧ KK = KK := by
  k_fill
  exact ⟨rfl, rfl⟩
section
variable {w : World} {tp : Program} {loose : List Str} {mean : ExcName → Option Value} {mg mb : Str → Option Value} {base g : Heap} {outer : List Env} {s : Shared} {dp un : Nat} {gd : Option (List Code)} {R : Result → Shared → Prop} {fp : List (Addr × Obj)} {fr : Option (List Env)}
local macro_rules | `(tactic| k_room) => `(tactic| ((try simp only [depth_under_make, depth_under_kw, depth_in1, depth_deeper, depth_caller]); (try dsimp only [Around.deeper, Around.under, Around.in1]); first | exact room0 (by assumption) | exact room1 (by assumption) rfl | exact room2 (by assumption) rfl | omega))
theorem slice_one {x : Str} {i : Nat} {j : Int} (hi : i < x.length) (hj : j = i + 1) : Txt.slice x (some (i : Int)) (some j) = ⟨#[x.cps.getD i 0]⟩ := by
  have hl : x.cps.toList.length = x.length := by show x.cps.toList.length = x.cps.size; simp
  have e := slice_closes (x := x) (i := (i : Int)) (j := j) ⟨by omega, by omega, by omega⟩
  rw [eq_of_beq e]
  have hi' : i < x.cps.size := hi
  have hn : (j - (i : Int)).toNat = 1 := by omega
  rw [hn]
  congr 1
  apply Array.ext'
  simp only [Int.toNat_natCast]
  rw [List.drop_eq_getElem_cons (by rw [hl]; exact hi)]
  simp [Array.getD, hi']
theorem read_c (k : SiT) (x : Str) (t1 tp2 : Tok) (a d : Addr) (i : Nat) (hx : x.length ≤ 2000) (hi : i ≤ x.length) (B : Below (AA dp un gd outer) base outer g) (X : (KK w.params).In g) (T : Top tp loose mean mg mb g) (P : Pre g s.heap [(a, instObj 597 d), (d, dictOf (siEs w.params k x (.int i tp2)) 3)]) (had : @Ne Nat a d) (hd : dp + 10 < recursionLimit) (hu : un + 100 < cLine)
    (h0 : i = x.length → ∀ tt h' tk', Pre g h' [(a, instObj 597 d), (d, dictOf (siEs w.params k x (.int i tp2)) 3)] → R (.ok (.ret (.str (Str.ofString "") tt))) { s with heap := h', toks := tk' })
    (h1 : i < x.length → ∀ tt tp3 h' tk', Pre g h' [(a, instObj 597 d), (d, dictOf (siEs w.params k x (.int (i + 1 : Nat) tp3)) 3)] → R (.ok (.ret (.str ⟨#[x.cps.getD i 0]⟩ tt))) { s with heap := h', toks := tk' }) :
    codeAny (model prg w) (AA dp un gd outer) (.call (.ref 543) ⟨[.ref a, .int 1 t1], []⟩) R s := by
  w_on
  k_dflt (refine' enter P X T ?k6 ?k7 ?k8 ?k9 ?kB ?_ ?c5 ?c2 ?c3 ?c4; (case k6 => k_is); (case k7 => k_is); (case k8 => first | exact room0 (by assumption) | omega); (case k9 => first | exact BindsTo.of_eq rfl | exact binds_K (Frag.In.keeps X (Pre.keep P)) rfl (by k_is) rfl rfl rfl); (case c5 => decide); (case kB => exact locs rfl); (case c2 => exact rfl); (case c3 => exact rfl); (case c4 => exact rfl))
  intro L' h₁ F N hlt
  have hq : ∀ (y : Str) tt (j : Int) tp3 h' tk', i < x.length → y = ⟨#[x.cps.getD i 0]⟩ → j = ((i + 1 : Nat) : Int) → Pre g h' [(a, instObj 597 d), (d, dictOf (siEs w.params k x (.int j tp3)) 3)] → R (.ok (.ret (.str y tt))) { s with heap := h', toks := tk' } := fun y tt j tp3 h' tk' e1 e2 e3 p => by subst e2; subst e3; exact h1 e1 tt tp3 h' tk' p
  clear h1
  (try dsimp only)
  (try k_fold)
  w_strict k_steps
  · exact h0 (by omega) _ _ _ (Pre.of_fr (by assumption) (by assumption) (sub_cons (by k_mem) (sub_cons (by k_mem) sub_nil)))
  · refine' hq _ _ _ _ _ _ (by omega) ?y ?j ?P
    case P => exact Pre.of_fr (by assumption) (by assumption) (sub_cons (by k_mem) (sub_cons (by k_mem) sub_nil))
    case y => exact slice_one (by omega) (by omega)
    case j => omega
  · refine' hq _ _ _ _ _ _ (by omega) ?y ?j ?P
    case P => exact Pre.of_fr (by assumption) (by assumption) (sub_cons (by k_mem) (sub_cons (by k_mem) sub_nil))
    case y => exact slice_one (by omega) (by omega)
    case j => omega
end
end Mine

end
section
open PySem PySem.W PySem.Calls PyProof.Rows
set_option Elab.async false
set_option maxRecDepth 100000
namespace Mine
inductive LSt where
  | nn | sp | wd | sq | dq
  deriving DecidableEq
def isWs (c : Nat) : Bool := decide (c = 32) || decide (c = 9) || decide (c = 13) || decide (c = 10)
/-- one token read: its text, whether it bore marks, the state behind it, what is left -/
def lx : LSt → Str → Bool → List Nat → Option (Str × Bool × LSt × List Nat)
  | .nn, tok, q, [] => some (tok, q, .nn, [])
  | .nn, _, _, _ :: _ => none
  | .sp, tok, q, [] => some (tok, q, .nn, [])
  | .sp, tok, q, c :: r => if isWs c then lx .sp tok q r else if c = 92 then none else if c = 39 then lx .sq tok q r else if c = 34 then lx .dq tok q r else lx .wd ⟨#[c]⟩ q r
  | .wd, tok, q, [] => some (tok, q, .nn, [])
  | .wd, tok, q, c :: r => if isWs c then (if tok.length = 0 ∧ q = false then none else some (tok, q, .sp, r)) else if c = 92 then none else if c = 39 then lx .sq tok q r else if c = 34 then lx .dq tok q r else lx .wd (tok ++ ⟨#[c]⟩) q r
  | .sq, _, _, [] => none
  | .sq, tok, _, c :: r => if c = 39 then lx .wd tok true r else lx .sq (tok ++ ⟨#[c]⟩) true r
  | .dq, _, _, [] => none
  | .dq, tok, _, c :: r => if c = 34 then lx .wd tok true r else if c = 92 then none else lx .dq (tok ++ ⟨#[c]⟩) true r
inductive StV : LSt → Value → Prop where
  | nn : StV .nn .none
  | sp (t : Tok) : StV .sp (.str (Str.ofString " ") t)
  | wd (t : Tok) : StV .wd (.str (Str.ofString "a") t)
  | sq (t : Tok) : StV .sq (.str (Str.ofString "'") t)
  | dq (t : Tok) : StV .dq (.str (Str.ofString "\"") t)
/-- the ledger of a shlex object at work -/
@[reducible] def shF (P : Params) (k : ShT) (ki : SiT) (a d y e pb fs : Nat) (com : Value) (wc : Str) (sp : Bool) (st ln tok : Value) (x : Str) (pos : Value) : List (Addr × Obj) :=
  [(a, instObj 732 d), (d, dictOf (shEs P k y com wc sp st pb ln tok fs) 19), (y, instObj 597 e), (e, dictOf (siEs P ki x pos) 3), (pb, dqObj), (fs, dqObj)]
structure TS where
  st : LSt
  sv : Value
  tok : Str
  tt : Tok
  q : Bool
  pos : Nat
  pt : Tok
  ln : Int
  lt : Tok
@[reducible] def TLed (P : Params) (k : ShT) (ki : SiT) (a d y e pb fs : Nat) (com : Value) (wc : Str) (x : Str) (c : TS) : List (Addr × Obj) :=
  shF P k ki a d y e pb fs com wc true c.sv (.int c.ln c.lt) (.str c.tok c.tt) x (.int c.pos c.pt)
def TP (x : Str) (fin : Str × Bool × LSt × List Nat) (c : TS) : Prop :=
  lx c.st c.tok c.q (x.cps.toList.drop c.pos) = some fin ∧ c.pos ≤ x.length ∧ c.tok.length ≤ c.pos ∧ (c.st = .sp ∨ c.st = .nn → c.tok = Str.ofString "" ∧ c.q = false) ∧ (c.st = .wd → c.tok.length = 0 → c.q = true)
theorem drop_at {x : Str} {i : Nat} (h : i < x.length) : x.cps.toList.drop i = x.cps.getD i 0 :: x.cps.toList.drop (i + 1) := by
  have hi : i < x.cps.size := h
  rw [List.drop_eq_getElem_cons (by simpa using hi)]
  simp [Array.getD, hi]
theorem drop_end {x : Str} : x.cps.toList.drop x.length = [] := by
  apply List.drop_eq_nil_of_le
  show x.cps.toList.length ≤ x.cps.size
  simp
section
variable {w : World} {prog : Program} {tp : Program} {loose : List Str} {mean : ExcName → Option Value} {mg mb : Str → Option Value} {base g : Heap} {outer : List Env} {s : Shared} {dp un : Nat} {gd : Option (List Code)} {R : Result → Shared → Prop} {A : Around} {E : Value → Shared → Prop}
theorem in_one {Q : Value → Shared → Prop} {x : Str} {c : Nat} {t u : Tok} (b : Bool) (hb : decide (c ∈ x.cps.toList) = b) (h : Q (.bool b) s) : wpAny (model prog w) A (compareOp .In (.str ⟨#[c]⟩ u) (.str x t)) Q E s := by
  refine PyProof.Rows.in_str ?_
  rw [StrLaws.found_one, hb]
  exact h
theorem in_any {Q : Value → Shared → Prop} {x : Str} {c : Nat} {t u : Tok} (h : ∀ b, Q (.bool b) s) : wpAny (model prog w) A (compareOp .In (.str ⟨#[c]⟩ u) (.str x t)) Q E s := PyProof.Rows.in_str (h _)
theorem eq_one {Q : Value → Shared → Prop} {y : Str} {c d : Nat} {t u : Tok} (hy : y = ⟨#[d]⟩) (b : Bool) (hb : decide (c = d) = b) (h : Q (.bool b) s) : wpAny (model prog w) A (compareOp .Eq (.str ⟨#[c]⟩ u) (.str y t)) Q E s := by
  refine eq_str ?_
  subst hy
  have e : ((⟨#[c]⟩ : Str) == ⟨#[d]⟩) = decide (c = d) := by
    rw [Bool.eq_iff_iff, beq_iff_eq, decide_eq_true_iff]; simp
  rw [e, hb]
  exact h
theorem truthy_one {Q : Bool → Shared → Prop} {c : Nat} {t : Tok} (h : ∀ k, Q true { s with toks := k }) : wpAny (model prog w) A (truthy (.str ⟨#[c]⟩ t)) Q E s := by
  refine SBL.truthy (by show ((1 : Nat) : Int) < _; decide) ?_
  exact h _
end
end Mine

end
section
open PySem PySem.W PySem.Calls PyProof.Rows
set_option Elab.async false
set_option maxRecDepth 100000
set_option maxHeartbeats 2000000
namespace Mine
theorem fillK_T : (PySem.Challenge.rw_mq0407_01 = PySem.Challenge.rw_mq0407_01) ∧ KK = KK := by
  k_fill
  exact ⟨rfl, rfl⟩
section
variable {w : World} {tp : Program} {loose : List Str} {mean : ExcName → Option Value} {mg mb : Str → Option Value} {base g : Heap} {outer : List Env} {s : Shared} {dp un : Nat} {gd : Option (List Code)} {R : Result → Shared → Prop} {fp : List (Addr × Obj)} {fr : Option (List Env)} {A : Around} {E : Value → Shared → Prop}
/-- a def with a contract called within a def's walk -/
theorem sub_call {A₀ : Around} {env : Env} {L : Addr} {m : Str → Option Value} {news fp : List (Addr × Obj)} {Q : Value → Shared → Prop} {f : Value} {args : List Value} {kw : List (Str × Value)}
    (hA : A = AA dp un gd (env :: outer)) (hf : env.frame = some L) (hke : env.scope.kind = .function) (B : Below A₀ base outer g) (F : Fr g L s.heap m) (X : (KK w.params).In g) (N : News g L s.heap news) (T : Top tp loose mean mg mb g) (hs : ∀ p ∈ fp, p ∈ news)
    (h : ∀ g', Below (AA dp un gd (env :: outer)) base (env :: outer) g' → (KK w.params).In g' → Top tp loose mean mg mb g' → Pre g' s.heap fp →
      (∀ h' fp', Pre g' h' fp' → Fr g L h' m ∧ ∀ rest, (∀ p ∈ rest, p ∈ news ∧ ∀ q ∈ fp, p.1 ≠ q.1) → News g L h' (fp' ++ rest)) →
      codeAny (model prg w) (AA dp un gd (env :: outer)) (.call f ⟨args, kw⟩) (fun r s' => match r with | .ok (.ret v) => Q v s' | .ok _ => False | .error e => E e s') s) :
    wpAny (model prg w) A (call f args kw) Q E s := by
  subst hA
  obtain ⟨g', B', X', T', P', _, back⟩ := under (A := AA dp un gd (env :: outer)) (fp := fp) B F X N T rfl hf hke hs
  exact wpAny_call (h g' B' X' T' P' back)
theorem sub_app {l1 l2 : List (Addr × Obj)} {h : Heap} {L : Addr} (N : News g L h l1) (hs : ∀ p ∈ l2, p ∈ l1) : News g L h l2 := fun p hp => N p (hs p hp)
theorem read_K {A₀ : Around} {env : Env} {L : Addr} {m : Str → Option Value} {news : List (Addr × Obj)} {Q : Value → Shared → Prop} {k : ShT} {ki : SiT} {a d y e pb fs i : Nat} {com : Value} {wc : Str} {sp : Bool} {st ln tok : Value} {x : Str} {pt t1 : Tok}
    (hA : A = AA dp un gd (env :: outer)) (hf : env.frame = some L) (hke : env.scope.kind = .function) (B : Below A₀ base outer g) (F : Fr g L s.heap m) (X : (KK w.params).In g) (N : News g L s.heap news) (T : Top tp loose mean mg mb g)
    (hs : ∀ p ∈ shF w.params k ki a d y e pb fs com wc sp st ln tok x (.int i pt), p ∈ news) (l1 : d < a) (l2 : a < e) (l3 : e < y) (l4 : y < pb) (l5 : pb < fs) (hx : x.length ≤ 2000) (hi : i ≤ x.length) (hd : dp + 10 < recursionLimit) (hu : un + 100 < cLine)
    (h0 : i = x.length → ∀ tt h' tk', Fr g L h' m → News g L h' (shF w.params k ki a d y e pb fs com wc sp st ln tok x (.int i pt)) → Q (.str (Str.ofString "") tt) { s with heap := h', toks := tk' })
    (h1 : i < x.length → ∀ c tt pt h' tk', x.cps.toList.drop i = c :: x.cps.toList.drop (i + 1) → Fr g L h' m → News g L h' (shF w.params k ki a d y e pb fs com wc sp st ln tok x (.int (i + 1 : Nat) pt)) → Q (.str ⟨#[c]⟩ tt) { s with heap := h', toks := tk' }) :
    wpAny (model prg w) A (call (.ref 543) [.ref y, .int 1 t1]) Q E s := by
  refine sub_call hA hf hke B F X N T (fp := [(y, instObj 597 e), (e, dictOf (siEs w.params ki x (.int i pt)) 3)]) (fun p hp => hs p ?_) fun g' B' X' T' P' back => ?_
  · rcases List.mem_cons.mp hp with rfl | hp
    · exact .tail _ (.tail _ (.head _))
    · rw [List.mem_singleton.mp hp]; exact .tail _ (.tail _ (.tail _ (.head _)))
  have rest : ∀ v, ∀ h', (∀ fp', fp' = [(y, instObj 597 e), (e, dictOf (siEs w.params ki x v) 3)] → Pre g' h' fp' → Fr g L h' m ∧ News g L h' (shF w.params k ki a d y e pb fs com wc sp st ln tok x v)) := by
    rintro v h' fp' rfl p
    obtain ⟨F', b⟩ := back h' _ p
    refine ⟨F', sub_app (b [(a, instObj 732 d), (d, dictOf (shEs w.params k y com wc sp st pb ln tok fs) 19), (pb, dqObj), (fs, dqObj)] fun p hp => ?_) fun p hp => ?_⟩
    · simp only [List.mem_cons, List.not_mem_nil, or_false] at hp
      refine ⟨hs p ?_, fun q hq => ?_⟩
      · rcases hp with rfl | rfl | rfl | rfl
        · exact .head _
        · exact .tail _ (.head _)
        · exact .tail _ (.tail _ (.tail _ (.tail _ (.head _))))
        · exact .tail _ (.tail _ (.tail _ (.tail _ (.tail _ (.head _)))))
      · simp only [List.mem_cons, List.not_mem_nil, or_false] at hq
        show @Ne Nat _ _
        rcases hp with rfl | rfl | rfl | rfl <;> rcases hq with rfl | rfl <;> dsimp only <;> omega
    · simp only [List.mem_cons, List.not_mem_nil, or_false, List.cons_append, List.nil_append] at hp ⊢
      rcases hp with rfl | rfl | rfl | rfl | rfl | rfl <;> simp
  refine read_c ki x t1 pt y e i hx hi B' X' T' P' (Nat.ne_of_gt l3) hd hu (fun ei tt h' tk' p => ?_) fun ei tt pt' h' tk' p => ?_
  · obtain ⟨F', N'⟩ := rest _ h' _ rfl p
    exact h0 ei tt h' tk' F' N'
  · obtain ⟨F', N'⟩ := rest _ h' _ rfl p
    exact h1 ei _ tt pt' h' tk' (drop_at ei) F' N'

/-- behind the loop -/
def TokQ (P : Params) (h₀ : Heap) (L : Addr) (s : Shared) (k : ShT) (ki : SiT) (a d y e pb fs : Nat) (com : Value) (wc x : Str) (m₀ : Str → Option Value) (fin : Str × Bool × LSt × List Nat) (f : Flow) (s' : Shared) : Prop :=
  f = .next ∧ ∃ (c : TS) (h : Heap) (tk : Nat) (m' : Str → Option Value), s' = { s with heap := h, toks := tk } ∧ StV c.st c.sv ∧ fin = (c.tok, c.q, c.st, x.cps.toList.drop c.pos) ∧ c.pos ≤ x.length ∧ c.tok.length ≤ c.pos ∧
    m' (Str.ofString "quoted") = some (.bool c.q) ∧ (∀ z, z ≠ Str.ofString "quoted" → z ≠ Str.ofString "nextchar" → m' z = m₀ z) ∧ Fr h₀ L h m' ∧ News h₀ L h (TLed P k ki a d y e pb fs com wc x c)
theorem fr_of {h₀ h : Heap} {L : Addr} {m₀ m' : Str → Option Value} {q : Bool} (F : Fr h₀ L h m') (h1 : m' (Str.ofString "quoted") = some (.bool q)) (h2 : ∀ z, z ≠ Str.ofString "quoted" → z ≠ Str.ofString "nextchar" → m' z = m₀ z) :
    Fr h₀ L h (fun z => if z = Str.ofString "quoted" then some (.bool q) else if z = Str.ofString "nextchar" then m' z else m₀ z) := by
  have e : (fun z => if z = Str.ofString "quoted" then some (.bool q) else if z = Str.ofString "nextchar" then m' z else m₀ z) = m' := by
    funext z
    split
    · next e => rw [e, h1]
    · split
      · rfl
      · next a b => exact (h2 z a b).symm
  rw [e]; exact F
@[reducible] def TPs (c : TS) : List (Str × Value) := [(Str.ofString "quoted", .bool c.q)]
theorem tok_while {h₀ : Heap} {env : Env} {L : Addr} {test : Expr} {body : List Stmt} {pos : Pos} {Q : Flow → Shared → Prop} {m₀ : Str → Option Value} {k : ShT} {ki : SiT} {a d y e pb fs i : Nat} {com : Value} {wc x : Str} {fin : Str × Bool × LSt × List Nat} {st : LSt} {sv : Value} {tt pt lt : Tok} {ln : Int}
    (F : Fr h₀ L s.heap m₀) (N : News h₀ L s.heap (shF w.params k ki a d y e pb fs com wc true sv (.int ln lt) (.str (Str.ofString "") tt) x (.int i pt))) (hsv : StV st sv) (hq : m₀ (Str.ofString "quoted") = some (.bool false)) (hi : i ≤ x.length) (hl : lx st (Str.ofString "") false (x.cps.toList.drop i) = some fin)
    (hwd : st = .sp ∨ st = .nn)
    (hE : PassesOwn (model prg w) A env E)
    (turn : ∀ (st : LSt) (sv : Value) (tok : Str) (tt : Tok) (q : Bool) (pos : Nat) (pt : Tok) (ln : Int) (lt : Tok) (u : Str → Option Value) h tk, StV st sv → TP x fin ⟨st, sv, tok, tt, q, pos, pt, ln, lt⟩ → pos ≤ x.length → tok.length ≤ pos →
      Fr h₀ L h (fun z => if z = Str.ofString "quoted" then some (.bool q) else if z = Str.ofString "nextchar" then u z else m₀ z) →
      News h₀ L h (shF w.params k ki a d y e pb fs com wc true sv (.int ln lt) (.str tok tt) x (.int pos pt)) →
      wpAny (model prg w) A (isTrue test env (eval test env)) (fun b s₂ =>
        if b = true then wpAny (model prg w) A (execs body env) (KswPost h₀ L s (TLed w.params k ki a d y e pb fs com wc x) TPs (fun c => StV c.st c.sv) [Str.ofString "nextchar"] m₀ (TP x fin) (fun c => x.length - c.pos) (TokQ w.params h₀ L s k ki a d y e pb fs com wc x m₀ fin) ⟨st, sv, tok, tt, q, pos, pt, ln, lt⟩) E s₂
        else TokQ w.params h₀ L s k ki a d y e pb fs com wc x m₀ fin .next s₂) E { s with heap := h, toks := tk })
    (done : ∀ (st : LSt) (sv : Value) (tok : Str) (tt : Tok) (q : Bool) (pos : Nat) (pt : Tok) (ln : Int) (lt : Tok) (u : Str → Option Value) h tk, StV st sv → fin = (tok, q, st, x.cps.toList.drop pos) → pos ≤ x.length → tok.length ≤ pos →
      Fr h₀ L h (fun z => if z = Str.ofString "quoted" then some (.bool q) else if z = Str.ofString "nextchar" then u z else m₀ z) →
      News h₀ L h (shF w.params k ki a d y e pb fs com wc true sv (.int ln lt) (.str tok tt) x (.int pos pt)) → Q .next { s with heap := h, toks := tk }) :
    wpAny (model prg w) A (exec (.While test body [] pos) env) Q E s := by
  refine wpAny_mono (Q := TokQ w.params h₀ L s k ki a d y e pb fs com wc x m₀ fin) ?_ (fun f s' h => ?_) fun _ _ z => z
  · refine ksw_while (TLed w.params k ki a d y e pb fs com wc x) TPs (fun c => StV c.st c.sv) [Str.ofString "nextchar"] (TP x fin) (fun c => x.length - c.pos) ⟨st, sv, Str.ofString "", tt, false, i, pt, ln, lt⟩ F N hsv ?_ ?_ ?_ hE
    · intro p hp; rw [List.mem_singleton.mp hp]; exact hq
    · exact ⟨hl, hi, Nat.zero_le _, fun _ => ⟨rfl, rfl⟩, fun z => by rcases hwd with h | h <;> rw [h] at z <;> cases z⟩
    · rintro ⟨st, sv, tok, tt, q, pos, pt, ln, lt⟩ u h tk hf hp F' N'
      refine turn st sv tok tt q pos pt ln lt u h tk hf hp hp.2.1 hp.2.2.1 ?_ N'
      have e : (fun z => if z = Str.ofString "quoted" then some (Value.bool q) else if z = Str.ofString "nextchar" then u z else m₀ z) = kstB (fun z => if [Str.ofString "nextchar"].contains z = true then u z else m₀ z) [(Str.ofString "quoted", .bool q)] := by
        funext z
        show _ = (if z = Str.ofString "quoted" then _ else if [Str.ofString "nextchar"].contains z = true then _ else _)
        congr 1
        by_cases h2 : z = Str.ofString "nextchar"
        · rw [if_pos h2, if_pos (by simpa using h2)]
        · rw [if_neg h2, if_neg (by simpa using h2)]
      rw [e]
      exact F'
  · obtain ⟨rfl, c, h, tk, m', rfl, h1, h2, h3, h4, h5, h6, F', N'⟩ := h
    exact done c.st c.sv c.tok c.tt c.q c.pos c.pt c.ln c.lt m' h tk h1 h2 h3 h4 (fr_of F' h5 h6) N'
end
end Mine

end
section
open PySem PySem.W PySem.Calls PyProof.Rows
set_option Elab.async false
set_option maxRecDepth 100000
set_option maxHeartbeats 4000000
namespace Mine
theorem fillK_Zx : (PySem.Challenge.rw_mq0407_01 = PySem.Challenge.rw_mq0407_01) ∧ KK = KK := by
  k_fill
  exact ⟨rfl, rfl⟩
theorem lx_sp {tok : Str} {q : Bool} {c : Nat} {r : List Nat} {fin} (h : lx .sp tok q (c :: r) = some fin) : (isWs c = true ∧ lx .sp tok q r = some fin) ∨ (c = 39 ∧ lx .sq tok q r = some fin) ∨ (c = 34 ∧ lx .dq tok q r = some fin) ∨ (isWs c = false ∧ c ≠ 92 ∧ c ≠ 39 ∧ c ≠ 34 ∧ lx .wd ⟨#[c]⟩ q r = some fin) := by
  unfold lx at h
  split at h
  · exact .inl ⟨by assumption, h⟩
  · split at h
    · cases h
    · split at h
      · exact .inr (.inl ⟨by assumption, h⟩)
      · split at h
        · exact .inr (.inr (.inl ⟨by assumption, h⟩))
        · exact .inr (.inr (.inr ⟨by simpa using ‹¬ isWs c = true›, by assumption, by assumption, by assumption, h⟩))
theorem lx_wd {tok : Str} {q : Bool} {c : Nat} {r : List Nat} {fin} (h : lx .wd tok q (c :: r) = some fin) : (isWs c = true ∧ ¬ (tok.length = 0 ∧ q = false) ∧ fin = (tok, q, .sp, r)) ∨ (c = 39 ∧ lx .sq tok q r = some fin) ∨ (c = 34 ∧ lx .dq tok q r = some fin) ∨ (isWs c = false ∧ c ≠ 92 ∧ c ≠ 39 ∧ c ≠ 34 ∧ lx .wd (tok ++ ⟨#[c]⟩) q r = some fin) := by
  unfold lx at h
  split at h
  · split at h
    · cases h
    · exact .inl ⟨by assumption, by assumption, (Option.some.inj h).symm⟩
  · split at h
    · cases h
    · split at h
      · exact .inr (.inl ⟨by assumption, h⟩)
      · split at h
        · exact .inr (.inr (.inl ⟨by assumption, h⟩))
        · exact .inr (.inr (.inr ⟨by simpa using ‹¬ isWs c = true›, by assumption, by assumption, by assumption, h⟩))
theorem lx_sq {tok : Str} {q : Bool} {c : Nat} {r : List Nat} {fin} (h : lx .sq tok q (c :: r) = some fin) : (c = 39 ∧ lx .wd tok true r = some fin) ∨ (c ≠ 39 ∧ lx .sq (tok ++ ⟨#[c]⟩) true r = some fin) := by
  unfold lx at h
  split at h
  · exact .inl ⟨by assumption, h⟩
  · exact .inr ⟨by assumption, h⟩
theorem lx_dq {tok : Str} {q : Bool} {c : Nat} {r : List Nat} {fin} (h : lx .dq tok q (c :: r) = some fin) : (c = 34 ∧ lx .wd tok true r = some fin) ∨ (c ≠ 34 ∧ c ≠ 92 ∧ lx .dq (tok ++ ⟨#[c]⟩) true r = some fin) := by
  unfold lx at h
  split at h
  · exact .inl ⟨by assumption, h⟩
  · split at h
    · cases h
    · exact .inr ⟨by assumption, by assumption, h⟩
theorem lit_sp : Str.ofString " " = ⟨#[32]⟩ := rfl
theorem lit_wd : Str.ofString "a" = ⟨#[97]⟩ := rfl
theorem lit_sq : Str.ofString "'" = ⟨#[39]⟩ := rfl
theorem lit_dq : Str.ofString "\"" = ⟨#[34]⟩ := rfl
theorem mem_ws (c : Nat) : decide (c ∈ (Str.ofString " \t\r\n").cps.toList) = isWs c := by
  rw [show (Str.ofString " \t\r\n").cps.toList = [32, 9, 13, 10] from rfl]
  simp [isWs, Bool.or_assoc]
theorem mem_quo (c : Nat) : decide (c ∈ (Str.ofString "'\"").cps.toList) = (decide (c = 39) || decide (c = 34)) := by
  rw [show (Str.ofString "'\"").cps.toList = [39, 34] from rfl]
  simp
section
variable {w : World} {tp : Program} {loose : List Str} {mean : ExcName → Option Value} {mg mb : Str → Option Value} {base g : Heap} {outer : List Env} {s : Shared} {dp un : Nat} {gd : Option (List Code)} {R : Result → Shared → Prop} {fp : List (Addr × Obj)} {fr : Option (List Env)} {A : Around} {E : Value → Shared → Prop}
theorem in_ws {Q : Value → Shared → Prop} {c : Nat} {t u : Tok} {b : Bool} (hw : isWs c = b) (h : Q (.bool b) s) : wpAny (model prg w) A (compareOp .In (.str ⟨#[c]⟩ u) (.str (Str.ofString " \t\r\n") t)) Q E s :=
  in_one b (by rw [mem_ws, hw]) h
theorem in_nil {Q : Value → Shared → Prop} {c : Nat} {t u : Tok} (h : Q (.bool false) s) : wpAny (model prg w) A (compareOp .In (.str ⟨#[c]⟩ u) (.str (Str.ofString "") t)) Q E s :=
  in_one false (by rw [show (Str.ofString "").cps.toList = [] from rfl]; simp) h
theorem in_two {Q : Value → Shared → Prop} {x : Str} {c : Nat} {t u : Tok} (h1 : Q (.bool true) s) (h2 : Q (.bool false) s) : wpAny (model prg w) A (compareOp .In (.str ⟨#[c]⟩ u) (.str x t)) Q E s := by
  refine in_any fun b => ?_
  cases b
  · exact h2
  · exact h1
theorem notin_nil {Q : Value → Shared → Prop} {c : Nat} {t u : Tok} (h : Q (.bool true) s) : wpAny (model prg w) A (compareOp .NotIn (.str ⟨#[c]⟩ u) (.str (Str.ofString "") t)) Q E s := by
  refine PyProof.Rows.notIn_str ?_
  rw [StrLaws.found_one, show (Str.ofString "").cps.toList = [] from rfl]
  simpa using h
theorem tok_abs {tok : Str} {q : Bool} (h : ¬ (tok.length = 0 ∧ q = false)) (h1 : (tok.length : Int) = 0) (h2 : q = false) : False := h ⟨by omega, h2⟩
theorem nz_q {tok : Str} {q : Bool} (h : q = true) : ¬ (tok.length = 0 ∧ q = false) := by
  rw [h]; simp
theorem nz_t {tok : Str} {q : Bool} (h : (tok == Str.ofString "") = false) : ¬ (tok.length = 0 ∧ q = false) := fun z => by
  have e : tok = Str.ofString "" := by
    obtain ⟨⟨l⟩⟩ := tok
    have : l = [] := List.length_eq_zero_iff.mp z.1
    subst this; rfl
  rw [e] at h
  exact absurd h (by decide)
theorem zz_t {tok : Str} {q : Bool} (h : (tok == Str.ofString "") = true) (h2 : q = false) : tok.length = 0 ∧ q = false := ⟨by rw [eq_of_beq h]; rfl, h2⟩
theorem in_esc_no {Q : Value → Shared → Prop} {c : Nat} {t u : Tok} (hc : c ≠ 92) (h : Q (.bool false) s) : wpAny (model prg w) A (compareOp .In (.str ⟨#[c]⟩ u) (.str (Str.ofString "\\") t)) Q E s :=
  in_one false (by rw [show (Str.ofString "\\").cps.toList = [92] from rfl]; simp [hc]) h
theorem in_quo_no {Q : Value → Shared → Prop} {c : Nat} {t u : Tok} (h1 : c ≠ 39) (h2 : c ≠ 34) (h : Q (.bool false) s) : wpAny (model prg w) A (compareOp .In (.str ⟨#[c]⟩ u) (.str (Str.ofString "'\"") t)) Q E s :=
  in_one false (by rw [mem_quo]; simp [h1, h2]) h
theorem in_lit {Q : Value → Shared → Prop} {c : Nat} {x y : Str} {t u : Tok} (b : Bool) (hy : y = ⟨#[c]⟩) (hb : decide (c ∈ x.cps.toList) = b) (h : Q (.bool b) s) : wpAny (model prg w) A (compareOp .In (.str y u) (.str x t)) Q E s := by
  subst hy; exact in_one b hb h
theorem eq_no {Q : Value → Shared → Prop} {c d : Nat} {y : Str} {t u : Tok} (hy : y = ⟨#[d]⟩) (hc : c ≠ d) (h : Q (.bool false) s) : wpAny (model prg w) A (compareOp .Eq (.str ⟨#[c]⟩ u) (.str y t)) Q E s :=
  eq_one hy false (by simp [hc]) h
theorem tok_end {h₀ h' : Heap} {L : Addr} {s₁ : Shared} {k : ShT} {ki : SiT} {a d y e pb fs i : Nat} {com : Value} {wc x : Str} {fin : Str × Bool × LSt × List Nat} {m₀ m' : Str → Option Value} {news : List (Addr × Obj)} {st : LSt} {sv : Value} {tok : Str} {tt pt lt : Tok} {ln : Int} {q : Bool} {c : TS} {tk : Nat}
    (F : Fr h₀ L h' m') (N : News h₀ L h' news) (hs : ∀ p ∈ shF w.params k ki a d y e pb fs com wc true sv (.int ln lt) (.str tok tt) x (.int i pt), p ∈ news) (hq : m' (Str.ofString "quoted") = some (.bool q)) (hr : ∀ z, z ≠ Str.ofString "quoted" → z ≠ Str.ofString "nextchar" → m' z = m₀ z)
    (hsv : StV st sv) (hl : lx st tok q (x.cps.toList.drop i) = some fin) (hi : i ≤ x.length) (ht : tok.length ≤ i) (h1 : st = .sp ∨ st = .nn → tok = Str.ofString "" ∧ q = false) (h2 : st = .wd → tok.length = 0 → q = true) (hm : x.length - i < x.length - c.pos) :
    KswEnd h₀ L s₁ (TLed w.params k ki a d y e pb fs com wc x) TPs (fun c => StV c.st c.sv) [Str.ofString "nextchar"] m₀ (TP x fin) (fun c => x.length - c.pos) c { s₁ with heap := h', toks := tk } := by
  refine ksw_end ⟨st, sv, tok, tt, q, i, pt, ln, lt⟩ F N hs hsv ?_ ?_ ⟨hl, hi, ht, h1, h2⟩ hm
  · intro p hp; rw [List.mem_singleton.mp hp]; exact hq
  · intro z hz hc
    refine hr z (hz _ (.head _)) ?_
    simpa using hc
theorem tok_brk {h₀ h' : Heap} {L : Addr} {s₁ : Shared} {k : ShT} {ki : SiT} {a d y e pb fs i : Nat} {com : Value} {wc x : Str} {fin : Str × Bool × LSt × List Nat} {m₀ m' : Str → Option Value} {news : List (Addr × Obj)} {st : LSt} {sv : Value} {tok : Str} {tt pt lt : Tok} {ln : Int} {q : Bool} {tk : Nat}
    (F : Fr h₀ L h' m') (N : News h₀ L h' news) (hs : ∀ p ∈ shF w.params k ki a d y e pb fs com wc true sv (.int ln lt) (.str tok tt) x (.int i pt), p ∈ news) (hq : m' (Str.ofString "quoted") = some (.bool q)) (hr : ∀ z, z ≠ Str.ofString "quoted" → z ≠ Str.ofString "nextchar" → m' z = m₀ z)
    (hsv : StV st sv) (hl : fin = (tok, q, st, x.cps.toList.drop i)) (hi : i ≤ x.length) (ht : tok.length ≤ i) : TokQ w.params h₀ L s₁ k ki a d y e pb fs com wc x m₀ fin .next { s₁ with heap := h', toks := tk } :=
  ⟨rfl, ⟨st, sv, tok, tt, q, i, pt, ln, lt⟩, h', tk, m', rfl, hsv, hl, hi, ht, hq, hr, F, sub_app N hs⟩
theorem eof_split {x : Str} {fin : Str × Bool × LSt × List Nat} {st : LSt} {sv : Value} {tok : Str} {tt pt lt : Tok} {q : Bool} {pos : Nat} {ln : Int} (hT : TP x fin ⟨st, sv, tok, tt, q, pos, pt, ln, lt⟩) (hS : StV st sv) (he : pos = x.length) :
    fin = (tok, q, .nn, x.cps.toList.drop pos) ∧ ((sv = .none ∧ tok = Str.ofString "" ∧ q = false) ∨ (∃ t, sv = .str (Str.ofString " ") t ∧ tok = Str.ofString "" ∧ q = false) ∨ (∃ t, sv = .str (Str.ofString "a") t)) := by
  obtain ⟨hl, -, -, hs, -⟩ := hT
  dsimp only at hl hs
  have e : x.cps.toList.drop pos = [] := by rw [he]; exact drop_end
  rw [e] at hl ⊢
  cases hS
  · obtain ⟨h1, h2⟩ := hs (.inr rfl)
    exact ⟨(Option.some.inj hl).symm, .inl ⟨rfl, h1, h2⟩⟩
  · obtain ⟨h1, h2⟩ := hs (.inl rfl)
    exact ⟨(Option.some.inj hl).symm, .inr (.inl ⟨_, rfl, h1, h2⟩)⟩
  · exact ⟨(Option.some.inj hl).symm, .inr (.inr ⟨_, rfl⟩)⟩
  · cases hl
  · cases hl
theorem chr_split {x : Str} {fin : Str × Bool × LSt × List Nat} {st : LSt} {sv : Value} {tok : Str} {tt pt lt : Tok} {q : Bool} {pos c : Nat} {ln : Int} (hT : TP x fin ⟨st, sv, tok, tt, q, pos, pt, ln, lt⟩) (hS : StV st sv) (hd : x.cps.toList.drop pos = c :: x.cps.toList.drop (pos + 1)) :
    (∃ t, sv = .str (Str.ofString " ") t ∧ tok = Str.ofString "" ∧ q = false ∧ isWs c = true ∧ lx .sp tok q (x.cps.toList.drop (pos + 1)) = some fin) ∨
    (∃ t, sv = .str (Str.ofString " ") t ∧ tok = Str.ofString "" ∧ q = false ∧ c = 39 ∧ lx .sq tok q (x.cps.toList.drop (pos + 1)) = some fin) ∨
    (∃ t, sv = .str (Str.ofString " ") t ∧ tok = Str.ofString "" ∧ q = false ∧ c = 34 ∧ lx .dq tok q (x.cps.toList.drop (pos + 1)) = some fin) ∨
    (∃ t, sv = .str (Str.ofString " ") t ∧ tok = Str.ofString "" ∧ q = false ∧ isWs c = false ∧ c ≠ 92 ∧ c ≠ 39 ∧ c ≠ 34 ∧ lx .wd ⟨#[c]⟩ q (x.cps.toList.drop (pos + 1)) = some fin) ∨
    (∃ t, sv = .str (Str.ofString "a") t ∧ isWs c = true ∧ ¬ (tok.length = 0 ∧ q = false) ∧ fin = (tok, q, .sp, x.cps.toList.drop (pos + 1))) ∨
    (∃ t, sv = .str (Str.ofString "a") t ∧ c = 39 ∧ lx .sq tok q (x.cps.toList.drop (pos + 1)) = some fin) ∨
    (∃ t, sv = .str (Str.ofString "a") t ∧ c = 34 ∧ lx .dq tok q (x.cps.toList.drop (pos + 1)) = some fin) ∨
    (∃ t, sv = .str (Str.ofString "a") t ∧ isWs c = false ∧ c ≠ 92 ∧ c ≠ 39 ∧ c ≠ 34 ∧ lx .wd (tok ++ ⟨#[c]⟩) q (x.cps.toList.drop (pos + 1)) = some fin) ∨
    (∃ t, sv = .str (Str.ofString "'") t ∧ c = 39 ∧ lx .wd tok true (x.cps.toList.drop (pos + 1)) = some fin) ∨
    (∃ t, sv = .str (Str.ofString "'") t ∧ c ≠ 39 ∧ lx .sq (tok ++ ⟨#[c]⟩) true (x.cps.toList.drop (pos + 1)) = some fin) ∨
    (∃ t, sv = .str (Str.ofString "\"") t ∧ c = 34 ∧ lx .wd tok true (x.cps.toList.drop (pos + 1)) = some fin) ∨
    (∃ t, sv = .str (Str.ofString "\"") t ∧ c ≠ 34 ∧ c ≠ 92 ∧ lx .dq (tok ++ ⟨#[c]⟩) true (x.cps.toList.drop (pos + 1)) = some fin) := by
  obtain ⟨hl, -, -, hs, -⟩ := hT
  dsimp only at hl hs
  rw [hd] at hl
  cases hS with
  | nn => cases hl
  | sp t =>
    obtain ⟨h1, h2⟩ := hs (.inl rfl)
    rcases lx_sp hl with ⟨a, b⟩ | ⟨a, b⟩ | ⟨a, b⟩ | ⟨a, b, c, d, e⟩
    · exact .inl ⟨t, rfl, h1, h2, a, b⟩
    · exact .inr (.inl ⟨t, rfl, h1, h2, a, b⟩)
    · exact .inr (.inr (.inl ⟨t, rfl, h1, h2, a, b⟩))
    · exact .inr (.inr (.inr (.inl ⟨t, rfl, h1, h2, a, b, c, d, e⟩)))
  | wd t =>
    rcases lx_wd hl with ⟨a, b, c⟩ | ⟨a, b⟩ | ⟨a, b⟩ | ⟨a, b, c, d, e⟩
    · exact .inr (.inr (.inr (.inr (.inl ⟨t, rfl, a, b, c⟩))))
    · exact .inr (.inr (.inr (.inr (.inr (.inl ⟨t, rfl, a, b⟩)))))
    · exact .inr (.inr (.inr (.inr (.inr (.inr (.inl ⟨t, rfl, a, b⟩))))))
    · exact .inr (.inr (.inr (.inr (.inr (.inr (.inr (.inl ⟨t, rfl, a, b, c, d, e⟩)))))))
  | sq t =>
    rcases lx_sq hl with ⟨a, b⟩ | ⟨a, b⟩
    · exact .inr (.inr (.inr (.inr (.inr (.inr (.inr (.inr (.inl ⟨t, rfl, a, b⟩))))))))
    · exact .inr (.inr (.inr (.inr (.inr (.inr (.inr (.inr (.inr (.inl ⟨t, rfl, a, b⟩)))))))))
  | dq t =>
    rcases lx_dq hl with ⟨a, b⟩ | ⟨a, b, c⟩
    · exact .inr (.inr (.inr (.inr (.inr (.inr (.inr (.inr (.inr (.inr (.inl ⟨t, rfl, a, b⟩))))))))))
    · exact .inr (.inr (.inr (.inr (.inr (.inr (.inr (.inr (.inr (.inr (.inr ⟨t, rfl, a, b, c⟩))))))))))
/-- the line's number told, whatever it is -/
def LnQ (P : Params) (h₀ : Heap) (L : Addr) (s : Shared) (m : Str → Option Value) (k : ShT) (ki : SiT) (a d y e pb fs : Nat) (com : Value) (wc : Str) (sv tok : Value) (x : Str) (pos : Value) (f : Flow) (s' : Shared) : Prop :=
  f = .next ∧ ∃ (ln : Int) (lt : Tok) (h : Heap) (tk : Nat), s' = { s with heap := h, toks := tk } ∧ Fr h₀ L h m ∧ News h₀ L h (shF P k ki a d y e pb fs com wc true sv (.int ln lt) tok x pos)
theorem ln_q {h₀ h : Heap} {L : Addr} {m : Str → Option Value} {k : ShT} {ki : SiT} {a d y e pb fs : Nat} {com : Value} {wc : Str} {sv tok : Value} {x : Str} {pos : Value} {news : List (Addr × Obj)} {ln : Int} {lt : Tok} {tk : Nat} (F : Fr h₀ L h m) (N : News h₀ L h news)
    (hs : ∀ p ∈ shF w.params k ki a d y e pb fs com wc true sv (.int ln lt) tok x pos, p ∈ news) : LnQ w.params h₀ L s m k ki a d y e pb fs com wc sv tok x pos .next { s with heap := h, toks := tk } := ⟨rfl, ln, lt, h, tk, rfl, F, sub_app N hs⟩
theorem ln_cut {S : Stmt} {env : Env} {L : Addr} {m : Str → Option Value} {k : ShT} {ki : SiT} {a d y e pb fs : Nat} {com : Value} {wc : Str} {sv tok lnv : Value} {x : Str} {pos : Value} {news : List (Addr × Obj)} {Q : Flow → Shared → Prop} (F : Fr g L s.heap m) (N : News g L s.heap news)
    (hs : ∀ p ∈ shF w.params k ki a d y e pb fs com wc true sv lnv tok x pos, p ∈ news)
    (h1 : wpAny (model prg w) A (exec S env) (LnQ w.params g L s m k ki a d y e pb fs com wc sv tok x pos) E s)
    (h2 : ∀ ln lt h' tk', Fr g L h' m → News g L h' (shF w.params k ki a d y e pb fs com wc true sv (.int ln lt) tok x pos) → Q .next { s with heap := h', toks := tk' }) : wpAny (model prg w) A (exec S env) Q E s := by
  refine wpAny_mono h1 (fun f s' h => ?_) fun _ _ z => z
  obtain ⟨rfl, ln, lt, h', tk', rfl, F', N'⟩ := h
  exact h2 ln lt h' tk' F' N'
theorem app_one (p : Str) (c : Nat) : (p ++ (⟨#[c]⟩ : Str)).length = p.length + 1 := by
  show (p.cps ++ #[c]).size = p.cps.size + 1
  simp
end
end Mine

end
section
open PySem PySem.W PySem.Calls PyProof.Rows
set_option Elab.async false
set_option maxRecDepth 100000
namespace Mine
open PySem.Sre

def reCode : Array Nat := #[14, 17, 4, 1, 1, 21, 9, 0, 604043296, 1, 0, 0, 0, 0, 0, 8, 4, 0, 13, 14, 21, 9, 0, 604043296, 1, 0, 0, 0, 0, 0, 8, 4, 0, 1]
/-- a sign that a shell reads bare -/
def safeC (c : Nat) : Bool := (decide (c < 256) && (reCode.getD (7 + c / 32) 0).testBit (c % 32)) || Sre.isWord c

theorem cw (c : Nat) (hc : c < 256) : reCode.getD (7 + c / 32) 0 = reCode.getD (22 + c / 32) 0 := by
  have : c / 32 < 8 := by omega
  revert this
  generalize c / 32 = d
  intro hd
  match d, hd with
  | 0, _ | 1, _ | 2, _ | 3, _ | 4, _ | 5, _ | 6, _ | 7, _ => rfl

theorem cat4 (c : Nat) : Sre.category 4 c = .ok (Sre.isWord c) := by
  unfold Sre.category
  simp [Except.map]

theorem inSet_neg {c fuel i : Nat} {yes : Bool} {seen : Sre.Seen} (h : ops[reCode.getD i 0]? = some .NEGATE) : inSet reCode c (fuel + 1) i yes seen = inSet reCode c fuel (i + 1) (!yes) (seen.add (reCode.getD i 0)) := by
  rw [inSet]; simp only [Nat.add_zero, h]
theorem inSet_fail {c fuel i : Nat} {yes : Bool} {seen : Sre.Seen} (h : ops[reCode.getD i 0]? = some .FAILURE) : inSet reCode c (fuel + 1) i yes seen = .ok (!yes, seen.add (reCode.getD i 0)) := by
  rw [inSet]; simp only [Nat.add_zero, h]
theorem inSet_set {c fuel i : Nat} {yes : Bool} {seen : Sre.Seen} (h : ops[reCode.getD i 0]? = some .CHARSET) :
    inSet reCode c (fuel + 1) i yes seen = if (decide (c < 256) && (reCode.getD (i + (1 + c / 32)) 0).testBit (c % 32)) = true then .ok (yes, seen.add (reCode.getD i 0)) else inSet reCode c fuel (i + 9) yes (seen.add (reCode.getD i 0)) := by
  rw [inSet]; simp only [Nat.add_zero, h]
theorem inSet_cat {c fuel i : Nat} {yes : Bool} {seen : Sre.Seen} (h : ops[reCode.getD i 0]? = some .CATEGORY) (h4 : reCode.getD (i + 1) 0 = 4) :
    inSet reCode c (fuel + 1) i yes seen = if Sre.isWord c = true then .ok (yes, (seen.add (reCode.getD i 0)).add 59) else inSet reCode c fuel (i + 2) yes ((seen.add (reCode.getD i 0)).add 59) := by
  rw [inSet]; simp only [Nat.add_zero, h, h4, cat4]
  cases Sre.isWord c <;> rfl

theorem inSet_at (i : Nat) (c : Nat) (seen : Sre.Seen) (h0 : ops[reCode.getD i 0]? = some .NEGATE) (h1 : ops[reCode.getD (i + 1) 0]? = some .CHARSET) (h2 : ops[reCode.getD (i + 1 + 9) 0]? = some .CATEGORY) (h3 : ops[reCode.getD (i + 1 + 9 + 2) 0]? = some .FAILURE)
    (h4 : reCode.getD (i + 1 + 9 + 1) 0 = 4) (hw : c < 256 → reCode.getD (i + 1 + (1 + c / 32)) 0 = reCode.getD (7 + c / 32) 0) : ∃ seen', inSet reCode c 34 i true seen = .ok (!safeC c, seen') := by
  rw [inSet_neg h0, inSet_set h1]
  unfold safeC
  by_cases hc : c < 256
  · rw [hw hc]
    cases hb : (reCode.getD (7 + c / 32) 0).testBit (c % 32) with
    | true => simp [hc]
    | false =>
      rw [if_neg (by simp), inSet_cat h2 h4]
      cases hq : Sre.isWord c with
      | true => simp
      | false => rw [if_neg (by simp), inSet_fail h3]; simp
  · rw [if_neg (by simp [hc]), inSet_cat h2 h4]
    cases hq : Sre.isWord c with
    | true => simp
    | false => rw [if_neg (by simp), inSet_fail h3]; simp [hc]
theorem inSet5 (c : Nat) (seen : Sre.Seen) : ∃ seen', inSet reCode c 34 5 true seen = .ok (!safeC c, seen') :=
  inSet_at 5 c seen rfl rfl rfl rfl rfl (fun _ => by congr 1; omega)
theorem inSet20 (c : Nat) (seen : Sre.Seen) : ∃ seen', inSet reCode c 34 20 true seen = .ok (!safeC c, seen') :=
  inSet_at 20 c seen rfl rfl rfl rfl rfl (fun hc => by rw [show 20 + 1 + (1 + c / 32) = 22 + c / 32 by omega]; exact (cw c hc).symm)

/-- the first place at or behind s whose sign is not safe -/
theorem admitted_is (m : M) (hcode : m.code = reCode) : ∀ (fuel s : Nat) (seen : Sre.Seen), m.lim + 1 ≤ fuel + s → ∃ r seen', m.admitted fuel s seen = .ok (r, seen') ∧
      (r = none → ∀ i, s ≤ i → i < m.lim → safeC (m.text.getD i 0) = true) ∧ (∀ k, r = some k → s ≤ k ∧ k < m.lim ∧ safeC (m.text.getD k 0) = false)
  | 0, s, seen, h => ⟨none, seen, rfl, fun _ i h1 h2 => by omega, fun k e => by cases e⟩
  | fuel + 1, s, seen, h => by
    unfold M.admitted
    by_cases hs : s ≥ m.lim
    · rw [if_pos hs]
      exact ⟨none, seen, rfl, fun _ i h1 h2 => by omega, fun k e => by cases e⟩
    · rw [if_neg hs]
      obtain ⟨seen', e⟩ := inSet5 (m.text.getD s 0) seen
      rw [hcode]
      rw [show reCode.size = 34 from rfl, e]
      cases hb : safeC (m.text.getD s 0) with
      | false => exact ⟨some s, seen', rfl, (fun e => by cases e), fun k e => by cases e; exact ⟨Nat.le_refl _, by omega, hb⟩⟩
      | true =>
        obtain ⟨r, sn, e1, e2, e3⟩ := admitted_is m hcode fuel (s + 1) seen' (by omega)
        refine ⟨r, sn, e1, fun hr i h1 h2 => ?_, fun k hk => ?_⟩
        · by_cases hi : i = s
          · subst hi; exact hb
          · exact e2 hr i (by omega) h2
        · have := e3 k hk; exact ⟨by omega, this.2⟩

/-- the text bears a sign that is not safe -/
def hasBad (x : Array Nat) : Bool := x.any fun c => !safeC c

abbrev m0 (x : Array Nat) : M := { code := reCode, text := x, lim := x.size, start := 0, lastStart := x.size, pc := 18, pos := 0, handed := 0, marks := #[], seen := ({} : Sre.Seen).add 14 }
abbrev mA (x : Array Nat) (k : Nat) (sn : Sre.Seen) : M := { code := reCode, text := x, lim := x.size, start := k, lastStart := x.size, pc := 18, pos := k, handed := k, marks := #[], frames := [{ wait := .nextStart, pc := 18, pos := k, outermost := true }], weight := 1, seen := sn }
abbrev mB (x : Array Nat) (k : Nat) (sn : Sre.Seen) : M := { code := reCode, text := x, lim := x.size, start := k, lastStart := x.size, pc := 33, pos := k + 1, handed := k, marks := #[], frames := [{ wait := .nextStart, pc := 18, pos := k, outermost := true }], weight := 1, seen := sn }
abbrev mE (x : Array Nat) (k : Nat) (sn : Sre.Seen) : M := { code := reCode, text := x, lim := x.size, start := k, lastStart := x.size, pc := 18, pos := k, handed := k + 1, marks := #[], frames := [], weight := 0, answer := some true, seen := sn, outcome := some .matched }
theorem forS (x : Array Nat) (hx : 0 < x.size) : forSearch reCode x 0 0 x.size false = (m0 x).attemptFrom 0 true := by
  unfold forSearch
  have h1 : (header reCode) = (1, 18) := rfl
  simp only [h1, Nat.not_lt_zero, Nat.sub_zero, gt_iff_lt]
  rw [if_neg (by intro h; rcases (by simpa only [Bool.or_eq_true, decide_eq_true_eq] using h : _ ∨ _) with h | h <;> omega)]
  rfl
theorem first_is (x : Array Nat) : (m0 x).hasFirstSet = true := rfl
theorem step_A (x : Array Nat) (k : Nat) (hk : k < x.size) (hb : safeC (x.getD k 0) = false) (sn : Sre.Seen) : ∃ sn', (mA x k sn).step = mB x k sn' := by
  obtain ⟨sn2, e2⟩ := inSet20 (x.getD k 0) (sn.add 13)
  refine ⟨sn2, ?_⟩
  show (if k ≥ x.size then _ else _) = _
  rw [if_neg (by omega)]
  show (match inSet reCode (x.getD k 0) 34 20 true (sn.add 13) with
    | .error why => _
    | .ok (false, seen) => _
    | .ok (true, seen) => _) = _
  rw [e2, hb]
  rfl
theorem run_A (x : Array Nat) (k : Nat) (hk : k < x.size) (hb : safeC (x.getD k 0) = false) (sn : Sre.Seen) : ∃ sn', (mA x k sn).runFor 4 = mE x k sn' := by
  obtain ⟨sn2, e2⟩ := step_A x k hk hb sn
  refine ⟨sn2.add 1, ?_⟩
  show M.runFor 3 (mA x k sn).step = _
  rw [e2]
  rfl
theorem search_ends (x : Array Nat) (hx : 0 < x.size) :
    (hasBad x = false ∧ ((forSearch reCode x 0 0 x.size false).runFor 4).outcome = some .failed) ∨ (hasBad x = true ∧ ∃ k sn, (forSearch reCode x 0 0 x.size false).runFor 4 = mE x k sn) := by
  rw [forS x hx]
  unfold M.attemptFrom
  rw [first_is]
  obtain ⟨r, sn, e, h1, h2⟩ := admitted_is (m0 x) rfl (x.size + 1 - 0) 0 (({} : Sre.Seen).add 14) (by show x.size + 1 ≤ x.size + 1 - 0 + 0; omega)
  simp only [Bool.not_true, Bool.false_eq_true, if_false]
  have e' : (m0 x).admitted ((m0 x).lim + 1 - 0) 0 (m0 x).seen = Except.ok (r, sn) := e
  rw [e']
  cases r with
  | none =>
    left
    refine ⟨?_, rfl⟩
    unfold hasBad
    rw [Array.any_eq_false]
    intro i hi
    have := h1 rfl i (Nat.zero_le _) hi
    simp only [Array.getD, hi, dif_pos] at this
    simpa using this
  | some k =>
    right
    obtain ⟨_, hk, hb⟩ := h2 k rfl
    refine ⟨?_, ?_⟩
    · unfold hasBad
      rw [Array.any_eq_true]
      refine ⟨k, hk, ?_⟩
      simp only [Array.getD, show k < x.size from hk, dif_pos] at hb
      simpa using hb
    · obtain ⟨sn', e3⟩ := run_A x k hk hb sn
      exact ⟨k, sn', e3⟩
end Mine

end
section
open PySem PySem.W PySem.Calls PyProof.Rows PySem.Builtin.Re
set_option Elab.async false
set_option maxRecDepth 100000
namespace Mine

abbrev pat49 : Obj := ⟨.type "re.Pattern", none, .fields #[.str (Str.ofString "[^\\w@%+=:,./-]") 332, .int 256 369, .int 0 0, .none, .none, .ref 48, .int 0 0], #[]⟩
abbrev fnd752 : Obj := ⟨.type "builtin_function_or_method", none, .fields #[.builtin "re.Pattern.search", .ref 49], #[]⟩
abbrev cod48 : Obj := ⟨.type "tuple", none, .seq (reCode.toList.map fun (n : Nat) => Value.int (Int.ofNat n) 0).toArray 0, #[]⟩
theorem k49 (P : Params) : (KK P).lookup 49 = some pat49 := by rfl
theorem k752 (P : Params) : (KK P).lookup 752 = some fnd752 := by rfl
theorem k48 (P : Params) : (KK P).lookup 48 = some cod48 := by rfl

theorem named_is (x : Str) (t : Tok) : reNamed "re.Pattern.search" "search" ["string", "pos", "endpos"] 1 [.str x t] [] = pure [some (.str x t), none, none] := by rfl
section
variable {w : World} {A : Around} {E : Value → Shared → Prop} {s : Shared}

theorem target_is {x : Str} {t : Tok} {Q : ReTarget → Shared → Prop} (h49 : s.heap.get? 49 = some pat49) (h48 : s.heap.get? 48 = some cod48) (hx : x.length ≤ 1000000)
    (h : Q ⟨.ref 49, .str x t, reCode, x.cps, 0, 0, 0, x.cps.size⟩ s) : wpAny (model prg w) A (reTarget "re.Pattern.search" "search" ⟨[.ref 49, .str x t], []⟩) Q E s := by
  unfold reTarget
  dsimp only
  rw [named_is]
  refine wpAny_bind (wpAny_pure ?_)
  dsimp only
  refine wpAny_bind (wpAny_pure (wpAny_bind (wpAny_pure ?_)))
  refine wpAny_bind (wpAny_fieldsOf h49 rfl ?_)
  refine wpAny_bind (m := reTextOf (.str x t)) ?_
  unfold reTextOf
  refine wpAny_bind (wpAny_pure (wpAny_pure ?_))
  dsimp only
  rw [if_neg (by decide), if_neg (by decide)]
  refine wpAny_bind (m := reNoCollectionInside (.str x t) 0) ?_
  unfold reNoCollectionInside
  rw [if_neg (by decide)]
  refine wpAny_pure ?_
  refine wpAny_bind (m := reRawItems (.ref 48)) ?_
  unfold reRawItems
  refine wpAny_bind (wpAny_seqItems h48 rfl (wpAny_pure ?_))
  refine wpAny_pure ?_
  have e1 : min (2 ^ 63 - 1 : Int).toNat x.cps.size = x.cps.size := by
    have : x.cps.size ≤ 1000000 := hx
    rw [show (2 ^ 63 - 1 : Int).toNat = 9223372036854775807 from rfl]; omega
  have e2 : min (Int.toNat 0) x.cps.size = 0 := by simp
  have e3 : Array.map (fun (x : Int) => x.toNat) (Array.map reRawOf (Option.getD (some (reCode.toList.map fun (n : Nat) => Value.int (Int.ofNat n) 0).toArray) #[])) = reCode := by decide +kernel
  rw [e1, e2, e3]
  exact h

theorem rules_quiet (m : Sre.M) {Q : PUnit → Shared → Prop} (hq : Q PUnit.unit s) : ∀ l : List Nat, wpAny (model prg w) A (forIn l PUnit.unit fun i (_ : PUnit) => (if m.seen.has i = true then (do rule (Sre.names.getD i ""); pure (ForInStep.yield PUnit.unit)) else pure (ForInStep.yield PUnit.unit) : Sem (ForInStep PUnit))) Q E s
  | [] => wpAny_pure hq
  | i :: r => by
    rw [List.forIn_cons]
    refine wpAny_bind ?_
    by_cases h : m.seen.has i = true
    · rw [if_pos h]
      exact wpAny_bind (wpAny_rule (wpAny_pure (rules_quiet m hq r)))
    · rw [if_neg h]
      exact wpAny_pure (rules_quiet m hq r)

/-- the engine's end -/
theorem run_end {m m' : Sre.M} {o : Sre.Outcome} {Q : Option Sre.M → Shared → Prop} (h : m.runFor 4 = m') (ho : m'.outcome = some o)
    (hq : wpAny (model prg w) A (match o with | .matched => pure (some m') | .failed => pure none | .stuck why => unsupported s!"_sre:{why}") Q E s) : wpAny (model prg w) A (reRunToEnd m) Q E s := by
  unfold reRunToEnd
  rw [show (2 : Nat) ^ 64 = 18446744073709551615 + 1 from rfl]
  unfold reDrive
  rw [show reTurnSteps = 4 from rfl, h, if_pos (by rw [ho]; rfl)]
  refine wpAny_bind (wpAny_pure ?_)
  refine wpAny_bind (m := forIn (List.range Sre.names.size) PUnit.unit _) ?_
  refine rules_quiet m' ?_ _
  rw [ho]
  cases o <;> exact hq

theorem search_tree {x : Str} {t : Tok} {Q : Fin → Shared → Prop} (h49 : s.heap.get? 49 = some pat49) (h48 : s.heap.get? 48 = some cod48) (h0 : 0 < x.length) (hx : x.length ≤ 1000000)
    (hg : hasBad x.cps = false → Q (.done (.ret .none)) s)
    (hb : hasBad x.cps = true → ∀ (a : Addr) (h' : Heap), (∀ b o, s.heap.get? b = some o → h'.get? b = some o) → s.heap.objs.size ≤ h'.objs.size → Q (.done (.ret (.ref a))) { s with heap := h' }) :
    wpAny (model prg w) A (Builtin.«re.Pattern.search» ⟨[.ref 49, .str x t], []⟩) Q E s := by
  unfold Builtin.«re.Pattern.search»
  refine wpAny_bind (target_is h49 h48 hx ?_)
  unfold reAnswer
  dsimp only
  rcases search_ends x.cps h0 with ⟨e, ho⟩ | ⟨e, k, sn, ho⟩
  · refine wpAny_bind (run_end rfl ho ?_)
    exact wpAny_pure (wpAny_pure (hg e))
  · refine wpAny_bind (run_end ho rfl ?_)
    refine wpAny_pure ?_
    dsimp only
    refine wpAny_bind (m := reNewMatch _ _ _ _ _ _) ?_
    unfold reNewMatch
    dsimp only
    rw [if_neg (by simp)]
    refine wpAny_bind (m := newTuple _) ?_
    unfold newTuple
    refine wpAny_newObj_type ?_ (by show 2 ≤ sizeLine; decide)
    unfold newFields
    refine wpAny_newObj_type ?_ (by show 6 ≤ sizeLine + 2; decide)
    refine wpAny_pure (hb e _ _ (fun b o q => Heap.get?_push_of_some _ (Heap.get?_push_of_some _ q)) ?_)
    rw [Heap.size_push, Heap.size_push]
    omega

theorem sig_is : Manifest.signature? "re.Pattern.search" = some ⟨.keywords, "Pattern.search", "search", .self, [⟨"string", .posOrKw, true⟩, ⟨"pos", .posOrKw, false⟩, ⟨"endpos", .posOrKw, false⟩]⟩ := by kernel_rfl
theorem kind_is : builtinKind "re.Pattern.search" = some .method := by kernel_rfl
theorem notmod : isSubtype (.type "re.Pattern") (.type "module") = pure false := by rw [isSubtype_type]; kernel_rfl
theorem novar : Manifest.varargsMethods.contains "re.Pattern.search" = false := by decide +kernel
theorem args_is (x : Str) (t : Tok) : Bind.checkArgs "re.Pattern.search" ⟨.keywords, toString (Bind.lastOf "re.Pattern") ++ toString "." ++ toString (Bind.lastOf "re.Pattern.search"), "search", .self, [⟨"string", .posOrKw, true⟩, ⟨"pos", .posOrKw, false⟩, ⟨"endpos", .posOrKw, false⟩]⟩ ⟨[.ref 49, .str x t], []⟩ = pure () := by kernel_rfl
theorem check_is {x : Str} {t : Tok} {Q : Unit → Shared → Prop} (h49 : s.heap.get? 49 = some pat49) (h : Q () s) : wpAny (model prg w) A (checkBoundCall "re.Pattern.search" ⟨[.ref 49, .str x t], []⟩) Q E s := by
  have hT : s.TypeIs (.ref 49) "re.Pattern" := (show ∃ o, s.heap.get? 49 = some o ∧ o.cls = .type "re.Pattern" from ⟨_, h49, rfl⟩)
  unfold checkBoundCall
  rw [sig_is, kind_is]
  dsimp only
  rw [if_neg (by decide)]
  refine wpAny_bind (wpAny_isInstance hT notmod ?_)
  rw [novar, if_neg (by decide)]
  refine wpAny_bind (m := isType (.ref 49)) ?_
  unfold isType
  refine wpAny_bind (wpAny_loadPart h49 (wpAny_pure ?_))
  rw [if_neg (by decide)]
  refine wpAny_bind (wpAny_typeOf hT ?_)
  dsimp only
  exact wpAny_of_eq (args_is x t) h
theorem entry_search : entryFor table "re.Pattern.search" = some Builtin.«re.Pattern.search» := by first | exact entryFor_of_fast (by kernel_rfl) | exact entryFor_of_tree (by kernel_rfl)
theorem quiet_search (args : Args) : (Code.builtin "re.Pattern.search" args).quiet = true := Code.quiet_builtin _ (by decide +kernel)

/-- the pattern's search called -/
theorem call_find {x : Str} {t : Tok} {Q : Value → Shared → Prop} (X : (KK w.params).In s.heap) (h0 : 0 < x.length) (hx : x.length ≤ 1000000)
    (hg : hasBad x.cps = false → Q .none s)
    (hb : hasBad x.cps = true → ∀ (a : Addr) (h' : Heap), (∀ b o, s.heap.get? b = some o → h'.get? b = some o) → s.heap.objs.size ≤ h'.objs.size → Q (.ref a) { s with heap := h' }) :
    wpAny (model prg w) A (call (.ref 752) [.str x t]) Q E s := by
  refine wpAny_call (codeAny_of_tree ?_)
  show wpAny _ A.in1 (callAny (.ref 752) ⟨[.str x t], []⟩) _ _ s
  simp only [callAny]
  refine wpAny_bind (wpAny_load (X _ _ (k752 _)) ?_)
  simp only [show (Value.type "builtin_function_or_method" == Value.type "method" || Value.type "builtin_function_or_method" == Value.type "builtin_function_or_method" || Value.type "builtin_function_or_method" == Value.type "method-wrapper") = true by decide, if_true]
  refine PySem.W.KFB.if_so (by decide) ?_
  refine wpAny_bind (check_is (X _ _ (k49 _)) ?_)
  refine wpAny_bind (wpAny_pure (wpAny_pure ?_))
  exact ⟨quiet_search _, codeAny_builtin entry_search (search_tree (X _ _ (k49 _)) (X _ _ (k48 _)) h0 hx hg hb)⟩

theorem keeper_find {M : Model} (h : Heap) (X : (KK w.params).In h) : ∃ k, (k = Keeper.frame ∨ k = Keeper.machine ∨ k = Keeper.boundFrame) ∧ Looks M h (keeperOf (.ref 752)) k := by
  exact ⟨.machine, .inr (.inl rfl), Looks.of_peek X rfl⟩
theorem callWith_find {pos : Pos} {env : Env} {e : Expr} {Q : Value → Shared → Prop}
    (h : wpAny (model prg w) A (spliced (backTo pos (starEach [e] env))) (fun vs s₁ => (KK w.params).In s₁.heap ∧ wpAny (model prg w) A (call (.ref 752) vs) Q E s₁) E s)
    (he : starEach [e] env = (false, eval e env) :: starEach [] env := by rfl) :
    wpAny (model prg w) A (callWith pos (.ref 752) [] (backTo pos (starEach [e] env)) []) Q E s := by
  rw [he] at h ⊢
  exact callWith_of (P := fun h => (KK w.params).In h) rfl keeper_find (evalArgs_plain h)
end
end Mine

end
section
open PySem
set_option Elab.async false
namespace Mine
/-- each c as the text z -/
def sbst (c : Nat) (z : List Nat) (l : List Nat) : List Nat := l.flatMap fun k => if k = c then z else [k]
theorem sbst_append (c : Nat) (z a b : List Nat) : sbst c z (a ++ b) = sbst c z a ++ sbst c z b := by simp [sbst]
theorem sbst_free (c : Nat) (z : List Nat) : ∀ l : List Nat, c ∉ l → sbst c z l = l
  | [], _ => rfl
  | k :: r, h => by
    have h1 : ¬ k = c := fun e => h (e ▸ List.mem_cons_self ..)
    have h2 : c ∉ r := fun m => h (List.mem_cons_of_mem _ m)
    have ih := sbst_free c z r h2
    unfold sbst at ih ⊢
    rw [List.flatMap_cons, if_neg h1, ih]; rfl
theorem sbst_join (c : Nat) (z : Str) : ∀ parts : List Str, (∀ p ∈ parts, c ∉ p.cps.toList) → sbst c z.cps.toList (Str.join ⟨#[c]⟩ parts).cps.toList = (Str.join z parts).cps.toList
  | [], _ => rfl
  | [p], h => sbst_free c _ _ (h p (List.mem_singleton.mpr rfl))
  | p :: q :: r, h => by
    have ih := sbst_join c z (q :: r) fun a ha => h a (List.mem_cons_of_mem _ ha)
    show sbst c z.cps.toList (p ++ ⟨#[c]⟩ ++ Str.join ⟨#[c]⟩ (q :: r)).cps.toList = (p ++ z ++ Str.join z (q :: r)).cps.toList
    simp only [Str.cps_append, Array.toList_append]
    rw [sbst_append, sbst_append, ih, sbst_free c _ _ (h p (List.mem_cons_self ..))]
    have : sbst c z.cps.toList [c] = z.cps.toList := by simp [sbst]
    rw [this]
theorem replace_sbst (x z : Str) (c : Nat) : (Txt.replace x ⟨#[c]⟩ z).cps.toList = sbst c z.cps.toList x.cps.toList := by
  rw [StrLaws.replace_one, ← sbst_join c z _ (StrLaws.split_free x c), StrLaws.join_split]
theorem sbst_length (c : Nat) (z : List Nat) : ∀ l : List Nat, (sbst c z l).length ≤ l.length * (z.length + 1)
  | [] => by simp [sbst]
  | k :: r => by
    have ih := sbst_length c z r
    unfold sbst at ih ⊢
    rw [List.flatMap_cons, List.length_append, List.length_cons, Nat.add_mul, Nat.one_mul]
    split
    · omega
    · rw [List.length_singleton]; omega
theorem one_is (c : Nat) (s : String) (h : Str.ofString s = ⟨#[c]⟩) : Str.ofString s = ⟨#[c]⟩ := h
theorem apo_is : Str.ofString "'" = ⟨#[39]⟩ := by decide +kernel
theorem apq_is : (Str.ofString "'\"'\"'") = ⟨#[39, 34, 39, 34, 39]⟩ := by decide +kernel
theorem replace_len (x : Str) : (Txt.replace x (Str.ofString "'") (Str.ofString "'\"'\"'")).length ≤ 6 * x.length := by
  show (Txt.replace x (Str.ofString "'") (Str.ofString "'\"'\"'")).cps.size ≤ 6 * x.cps.size
  rw [← Array.length_toList, apo_is, apq_is, replace_sbst]
  have := sbst_length 39 [39, 34, 39, 34, 39] x.cps.toList
  simp only [Array.length_toList, List.length_cons, List.length_nil] at this ⊢
  omega
end Mine

end
section
open PySem PySem.W PySem.Calls PyProof.Rows
set_option Elab.async false
set_option maxRecDepth 100000
set_option maxHeartbeats 8000000
set_option compiler.extract_closed false
namespace Mine
theorem fillK_Q : (PySem.Challenge.rw_mq0407_01 = PySem.Challenge.rw_mq0407_01) ∧ KK = KK := by
  k_fill
  exact ⟨rfl, rfl⟩
/-- shlex.quote -/
def quoteT (x : Str) : Str := if x.length = 0 then Str.ofString "''" else if hasBad x.cps = false then x else Str.ofString "'" ++ Txt.replace x (Str.ofString "'") (Str.ofString "'\"'\"'") ++ Str.ofString "'"

section
variable {w : World} {tp : Program} {loose : List Str} {mean : ExcName → Option Value} {mg mb : Str → Option Value} {base g : Heap} {outer : List Env} {s : Shared} {dp un : Nat} {gd : Option (List Code)} {R : Result → Shared → Prop} {fp : List (Addr × Obj)} {fr : Option (List Env)}

theorem find_K {A : Around} {E : Value → Shared → Prop} {x : Str} {t : Tok} {L : Addr} {m : Str → Option Value} {news : List (Addr × Obj)} {Q : Value → Shared → Prop} (F : Fr g L s.heap m) (N : News g L s.heap news) (X : (KK w.params).In g) (h0 : 0 < x.length) (hx : x.length ≤ 1000000)
    (hg : hasBad x.cps = false → Q .none s)
    (hb : hasBad x.cps = true → ∀ (a : Addr) (h' : Heap), Fr g L h' m → News g L h' news → Q (.ref a) { s with heap := h' }) :
    wpAny (model prg w) A (call (.ref 752) [.str x t]) Q E s :=
  call_find (X.keeps F.keep) h0 hx hg fun e a h' hk _ => hb e a h' (F.keeps hk) fun p hp => ⟨hk _ _ (N p hp).1, (N p hp).2⟩

local macro_rules | `(tactic| walk_at "callWith ref") => `(tactic| ((with_reducible show wpAny _ _ (callWith _ (Value.ref 752) _ _ _) _ _ _); k_dflt (refine' callWith_find ?_); k_whole))
local macro_rules | `(tactic| walk_at "call ref") => `(tactic| ((with_reducible show wpAny _ _ (call (Value.ref 752) _) _ _ _); k_dflt (refine' find_K ?k1 ?k2 ?k3 ?k4 ?k5 ?_ ?_; (case k1 => k_asm); (case k2 => k_asm); (case k3 => k_asm); (case k4 => (simp only [ne_eq] at *; omega)); (case k5 => omega)); intro hB))

theorem quote_c (x : Str) (t : Tok) (hx : x.length ≤ 2000) (X : (KK w.params).In g) (T : Top tp loose mean mg mb g) (P : Pre g s.heap []) (hd : dp + 2 < recursionLimit) (hu : un + 20 < cLine)
    (h : ∀ t' h' tk', Pre g h' [] → R (.ok (.ret (.str (quoteT x) t'))) { s with heap := h', toks := tk' }) :
    codeAny (model prg w) (AF dp un gd fr) (.call (.ref 759) ⟨[.str x t], []⟩) R s := by
  w_on
  k_dflt (refine' enter P X T ?k6 ?k7 ?k8 ?k9 ?kB ?_ ?c5 ?c2 ?c3 ?c4; (case k6 => k_is); (case k7 => k_is); (case k8 => first | exact room0 (by assumption) | omega); (case k9 => exact BindsTo.of_eq rfl); (case c5 => decide); (case kB => exact locs rfl); (case c2 => exact rfl); (case c3 => exact rfl); (case c4 => exact rfl))
  intro L' h₁ F N hlt
  (try dsimp only)
  have hr := replace_len x
  have hq : ∀ y t' h' tk', y = quoteT x → Pre g h' [] → R (.ok (.ret (.str y t'))) { s with heap := h', toks := tk' } := fun y t' h' tk' e p => by subst e; exact h t' h' tk' p
  clear h
  (try k_fold)
  w_strict k_steps
  all_goals (refine hq _ _ _ _ ?_ (Pre.of_fr (by assumption) (by assumption) (fun _ h => nomatch h)))
  · unfold quoteT
    rw [if_neg (by omega), if_pos (by assumption)]
  · unfold quoteT
    have hB : hasBad x.cps = true := by assumption
    rw [if_neg (by omega), if_neg (by rw [hB]; decide)]
  · unfold quoteT
    rw [if_pos (by omega)]
end
end Mine

end
section
open PySem PySem.W PySem.Calls PyProof.Rows
set_option Elab.async false
set_option maxRecDepth 100000
set_option maxHeartbeats 500000
namespace Mine
section
variable {prog : Program} {w : World} {A : Around} {s : Shared} {h₀ : Heap} {L : Addr} {m : Str → Option Value} {env : Env}
/-- the turns of a comprehension under an invariant -/
theorem rest_inv {elt : Expr} {x : Str} {scope : Scope} {cl : List (Str × Addr)} {S : List (Addr × Obj) → Prop} {P : Nat → Value → Prop} {Fin : List Value → List (Addr × Obj) → Prop} {n : Nat} (J : Nat → List Value → List (Addr × Obj) → Prop)
    (step : ∀ i ys news, i < n → J i ys news → ∀ v I oI C oC D m₂ h tk (E' : Value → Shared → Prop), P i v → LCg.NsObj oC m₂ → m₂ x = some v → Fr h₀ L h m → News h₀ L h ((I, oI) :: (C, oC) :: (D, LCg.lst ys) :: news) → LCg.Off3 I C D news → ((@Ne Nat I C) ∧ (@Ne Nat I D) ∧ (@Ne Nat C D)) →
      wpAny (model prog w) A (eval elt (compEnvC scope cl C env)) (LCg.CompEnd h₀ L m { s with heap := h, toks := tk } I oI C oC D (LCg.lst ys) S (fun y news' => J (i + 1) (ys ++ [y]) news')) E' { s with heap := h, toks := tk })
    (fin : ∀ ys news, J n ys news → Fin ys news) : ∀ k i ys news, i + k = n → J i ys news → LCg.CompRest prog w A h₀ L m env elt x scope cl s S P Fin k i ys news
  | 0, i, ys, news, e, j => fin ys news (by rw [← e, Nat.add_zero]; exact j)
  | k + 1, i, ys, news, e, j => by
    intro v I oI C oC D m₂ h tk E' h1 h2 h3 h4 h5 h6 h7
    refine wpAny_mono (step i ys news (by omega) j v I oI C oC D m₂ h tk E' h1 h2 h3 h4 h5 h6 h7) (fun y s₂ hy => ?_) fun _ _ e => e
    obtain ⟨h', tk', news', e1, e2, e3, e4, e5, e6⟩ := hy
    exact ⟨h', tk', news', e1, e2, e3, e4, e5, rest_inv J step fin k (i + 1) _ _ (by omega) e6⟩

/-- a comprehension over a list of texts, each turned into a text with no heap touched -/
theorem comp_strs {E : Value → Shared → Prop} {elt iter : Expr} {x : Str} {px pos : Pos} {scope : Scope} {Q : Value → Shared → Prop} {r : Addr} {us : List Value} {k : Nat} {ss : List Str} {news : List (Addr × Obj)} (f : Str → Str)
    (F : Fr h₀ L s.heap m) (N : News h₀ L s.heap ((r, listOf us.toArray k) :: news)) (hS : StrsAre us ss) (hsz : us.length ≤ 100000) (hh : A.handled = none)
    (hclos : closureFor scope env = pure []) (hcell : ∀ y ∈ scope.names, y.2 ≠ .cell) (hkind : scope.kind = .function)
    (hnames : ∀ y ∈ scope.names, y.2 = .local → scope.names.lookup y.1 = some .local) (hx : scope.names.lookup x = some .local)
    (hi : ∀ Q' : Value → Shared → Prop, Q' (.ref r) s → wpAny (model prog w) A (eval iter env) Q' E s)
    (hs : ∀ x, foldedSetIterable iter env x = pure x)
    (el : ∀ y ∈ ss, ∀ t C m₂ (s' : Shared) (Q' : Value → Shared → Prop) (E' : Value → Shared → Prop), s'.heap.Ns C m₂ → m₂ x = some (.str y t) → (∀ t' k', Q' (.str (f y) t') { s' with toks := k' }) → wpAny (model prog w) A (eval elt (compEnvC scope [] C env)) Q' E' s')
    (h : ∀ D h' tk vs, StrsAre vs (ss.map f) → Fr h₀ L h' m → News h₀ L h' ((D, LCg.lst vs) :: (r, listOf us.toArray k) :: news) → Q (.ref D) { s with heap := h', toks := tk }) :
    wpAny (model prog w) A (eval (.ListComp elt [⟨.Name x px, iter, [], 0⟩] scope pos) env) Q E s := by
  have hle : us.toArray.size ≤ sizeLine := by simp only [List.size_toArray]; exact Nat.le_trans hsz (by decide)
  have hlen := StrsAre.length hS
  refine LCg.ListComp_U F hclos hcell hkind hnames hx (hi _ (LCg.CompSrc.ledger hh F N (.head _) hle fun g => ?_)) hs
  refine rest_inv (n := us.toArray.size) (fun i ys nw => nw = (r, listOf us.toArray k) :: news ∧ StrsAre ys ((ss.take i).map f)) ?_ ?_ us.toArray.size 0 [] _ (Nat.zero_add _) ⟨rfl, .nil⟩
  · rintro i ys nw hi ⟨rfl, hy⟩ v I oI C oC D m₂ h1 tk E' hP hC hv F1 N1 off ne
    obtain ⟨y, t, rfl, hyi⟩ := StrsAre.item hS i v (by simpa using hP)
    refine el y (List.mem_of_getElem? hyi) t C m₂ _ _ _ (hC.ns (N1 (C, oC) (.tail _ (.head _))).1) hv fun t' k' => ?_
    refine LCg.CompEnd.intro F1 N1 _ (fun p hp => hp) off (.inr ⟨_, .head _, rfl, _, rfl⟩) ⟨rfl, ?_⟩
    rw [List.take_add_one, hyi, List.map_append]
    exact StrsAre.append' hy (StrsAre.cons _ _ StrsAre.nil)
  · rintro ys nw ⟨rfl, hy⟩ D h2 tk F2 N2 _
    refine h D h2 tk ys ?_ F2 N2
    rw [List.size_toArray, hlen, List.take_length] at hy
    exact hy
end
end Mine

end
section
open PySem PySem.W PySem.Calls PyProof.Rows
set_option Elab.async false
set_option maxRecDepth 100000
set_option maxHeartbeats 500000
set_option compiler.extract_closed false
namespace Mine
theorem fillK_H : (PySem.Challenge.rw_mq0407_01 = PySem.Challenge.rw_mq0407_01) ∧ KK = KK := by
  k_fill
  exact ⟨rfl, rfl⟩
/-- one sign of a header's list -/
structure HS where
  res : List Str
  part : Str
  esc : Bool
  quo : Bool
def hstep (q : HS) (c : Nat) : HS :=
  if q.esc then { q with part := q.part ++ ⟨#[c]⟩, esc := false }
  else if q.quo then
    if c = 92 then { q with esc := true }
    else { q with part := q.part ++ ⟨#[c]⟩, quo := if c = 34 then false else q.quo }
  else if c = 44 then { q with res := q.res ++ [q.part], part := Str.ofString "" }
  else { q with part := q.part ++ ⟨#[c]⟩, quo := if c = 34 then true else q.quo }
def hrun (l : List Nat) : HS := l.foldl hstep ⟨[], Str.ofString "", false, false⟩
def parseT (x : Str) : List Str := let q := hrun x.cps.toList; ((if q.part.length = 0 then q.res else q.res ++ [q.part])).map Txt.strip

/-- the loop's state: the list's items, its epoch, the part's token -/
structure CS where
  q : HS
  us : List Value
  n : Nat
  t : Tok
section
variable {w : World} {tp : Program} {loose : List Str} {mean : ExcName → Option Value} {mg mb : Str → Option Value} {base g : Heap} {outer : List Env} {s : Shared} {dp un : Nat} {gd : Option (List Code)} {R : Result → Shared → Prop} {fp : List (Addr × Obj)}

theorem parse_loop {A : Around} {E : Value → Shared → Prop} {env : Env} {h₀ : Heap} {body : List Stmt} {Q : Flow → Shared → Prop} {xt : Str} {tx t0 : Tok} {m₀ : Str → Option Value} {r : Addr}
    (F : Fr h₀ env.locals s.heap m₀) (N : News h₀ env.locals s.heap [(r, listOf ([] : List Value).toArray 0)]) (hh : A.handled = none)
    (h1 : m₀ (Str.ofString "part") = some (.str (Str.ofString "") t0)) (h2 : m₀ (Str.ofString "escape") = some (.bool false)) (h3 : m₀ (Str.ofString "quote") = some (.bool false))
    (turn : ∀ (q : HS) (us : List Value) (k : Nat) (tp : Tok) (pre post : List Int) (n : Nat) t (u : Str → Option Value) h tk own, KStt.codes xt = pre ++ (n : Int) :: post → OwnOff own [r] → StrsAre us q.res → q = hrun (pre.map Int.toNat) → q.part.length ≤ pre.length → q.res.length ≤ pre.length →
      Fr h₀ env.locals h (fun y => if y = Str.ofString "cur" then some (.str ⟨#[n]⟩ t) else if y = Str.ofString "part" then some (.str q.part tp) else if y = Str.ofString "escape" then some (.bool q.esc) else if y = Str.ofString "quote" then some (.bool q.quo) else m₀ y) →
      News h₀ env.locals h ((r, listOf us.toArray k) :: own) →
      wpAny (model prg w) A (execs body env) (InvPostN h₀ env.locals (KstS (fun c : CS => [(r, listOf c.us.toArray c.n)]) (fun c => [(Str.ofString "part", .str c.q.part c.t), (Str.ofString "escape", .bool c.q.esc), (Str.ofString "quote", .bool c.q.quo)]) (fun c => StrsAre c.us c.q.res) (Str.ofString "cur") [] m₀ (fun pre c => c.q = hrun (pre.map Int.toNat) ∧ c.q.part.length ≤ pre.length ∧ c.q.res.length ≤ pre.length) (pre ++ [(n : Int)])) own [r] { s with heap := h, toks := tk } Q) E { s with heap := h, toks := tk })
    (done : ∀ (q : HS) (us : List Value) (k : Nat) (tp : Tok) (u : Str → Option Value) h tk, StrsAre us q.res → q = hrun xt.cps.toList → q.part.length ≤ xt.length → q.res.length ≤ xt.length →
      Fr h₀ env.locals h (fun y => if y = Str.ofString "cur" then u y else if y = Str.ofString "part" then some (.str q.part tp) else if y = Str.ofString "escape" then some (.bool q.esc) else if y = Str.ofString "quote" then some (.bool q.quo) else m₀ y) →
      News h₀ env.locals h [(r, listOf us.toArray k)] → Q .next { s with heap := h, toks := tk }) :
    wpAny (model prg w) A (pyIter (.str xt tx)) (fun it s₂ => LoopAtV prg w A h₀ env (Str.ofString "cur") body Q E it s₂) E s := by
  refine KStt.kst_text (σ := CS) (fun c => [(r, listOf c.us.toArray c.n)]) (fun c => [(Str.ofString "part", .str c.q.part c.t), (Str.ofString "escape", .bool c.q.esc), (Str.ofString "quote", .bool c.q.quo)]) (fun c => StrsAre c.us c.q.res) [] (fun pre c => c.q = hrun (pre.map Int.toNat) ∧ c.q.part.length ≤ pre.length ∧ c.q.res.length ≤ pre.length) ⟨⟨[], Str.ofString "", false, false⟩, [], 0, t0⟩ hh F N StrsAre.nil ?_ ⟨rfl, Nat.le_refl _, Nat.le_refl _⟩ ?_ ?_
  · intro p hp
    simp only [List.mem_cons, List.not_mem_nil, or_false] at hp
    rcases hp with rfl | rfl | rfl
    · exact h1
    · exact h2
    · exact h3
  · intro c pre post n t u h tk own e hoff hf hp F' N'
    exact turn c.q c.us c.n c.t pre post n t u h tk own e hoff hf hp.1 hp.2.1 hp.2.2 F' N'
  · intro c u h tk hf hp F' N'
    have e : (KStt.codes xt).map Int.toNat = xt.cps.toList := by
      have := congrArg (fun y : Str => y.cps.toList) (KStt.txt_codes xt)
      simpa [KStt.txt] using this
    have l := KStt.codes_length xt
    exact done c.q c.us c.n c.t u h tk hf (by rw [hp.1, e]) (by rw [← l]; exact hp.2.1) (by rw [← l]; exact hp.2.2) F' N'

theorem pre_lt {x : Str} {pre post : List Int} {n : Nat} (h : KStt.codes x = pre ++ (n : Int) :: post) : pre.length < x.length := by
  have := congrArg List.length h
  rw [KStt.codes_length, List.length_append, List.length_cons] at this
  omega
theorem one_len (n : Nat) : (⟨#[n]⟩ : Str).length = 1 := rfl
theorem parse_for {A : Around} {E : Value → Shared → Prop} {name : Str} {scope : Scope} {L a : Addr} {cd : Value} {h₀ : Heap} {body : List Stmt} {Q : Flow → Shared → Prop} {xt : Str} {tx t0 : Tok} {m₀ : Str → Option Value} {r : Addr} {px py pos : Pos}
    (F : Fr h₀ L s.heap m₀) (N : News h₀ L s.heap [(r, listOf ([] : List Value).toArray 0)]) (hh : A.handled = none) (hs0 : m₀ (Str.ofString "s") = some (.str xt tx))
    (h1 : m₀ (Str.ofString "part") = some (.str (Str.ofString "") t0)) (h2 : m₀ (Str.ofString "escape") = some (.bool false)) (h3 : m₀ (Str.ofString "quote") = some (.bool false))
    (hk : scope.kind = .function) (hl : (envOf name scope L a cd).kindOf (Str.ofString "s") = some .local) (hc : (envOf name scope L a cd).kindOf (Str.ofString "cur") = some .local)
    (hE : PassesOwn (model prg w) A (envOf name scope L a cd) E)
    (turn : ∀ (q : HS) (us : List Value) (k : Nat) (tp : Tok) (pre post : List Int) (n : Nat) t (u : Str → Option Value) h tk own, KStt.codes xt = pre ++ (n : Int) :: post → OwnOff own [r] → StrsAre us q.res → q = hrun (pre.map Int.toNat) → q.part.length ≤ pre.length → q.res.length ≤ pre.length →
      Fr h₀ L h (fun y => if y = Str.ofString "cur" then some (.str ⟨#[n]⟩ t) else if y = Str.ofString "part" then some (.str q.part tp) else if y = Str.ofString "escape" then some (.bool q.esc) else if y = Str.ofString "quote" then some (.bool q.quo) else m₀ y) →
      News h₀ L h ((r, listOf us.toArray k) :: own) →
      wpAny (model prg w) A (execs body (envOf name scope L a cd)) (InvPostN h₀ L (KstS (fun c : CS => [(r, listOf c.us.toArray c.n)]) (fun c => [(Str.ofString "part", .str c.q.part c.t), (Str.ofString "escape", .bool c.q.esc), (Str.ofString "quote", .bool c.q.quo)]) (fun c => StrsAre c.us c.q.res) (Str.ofString "cur") [] m₀ (fun pre c => c.q = hrun (pre.map Int.toNat) ∧ c.q.part.length ≤ pre.length ∧ c.q.res.length ≤ pre.length) (pre ++ [(n : Int)])) own [r] { s with heap := h, toks := tk } Q) E { s with heap := h, toks := tk })
    (done : ∀ (q : HS) (us : List Value) (k : Nat) (tp : Tok) (u : Str → Option Value) h tk, StrsAre us q.res → q = hrun xt.cps.toList → q.part.length ≤ xt.length → q.res.length ≤ xt.length →
      Fr h₀ L h (fun y => if y = Str.ofString "cur" then u y else if y = Str.ofString "part" then some (.str q.part tp) else if y = Str.ofString "escape" then some (.bool q.esc) else if y = Str.ofString "quote" then some (.bool q.quo) else m₀ y) →
      News h₀ L h [(r, listOf us.toArray k)] → Q .next { s with heap := h, toks := tk }) :
    wpAny (model prg w) A (exec (.For (.Name (Str.ofString "cur") px) (.Name (Str.ofString "s") py) body [] pos) (envOf name scope L a cd)) Q E s := by
  refine For_invV h₀ hc (by show (scope.kind == .class || (scope.kind == .module && _)) = false; rw [hk]; rfl) (ld F hs0 ?_ hk hl (by decide)) (by intro _; rfl) hE
  exact parse_loop (env := envOf name scope L a cd) F N hh h1 h2 h3 turn done

local macro_rules | `(tactic| walk_at "exec For Name Name cons nil") => `(tactic| (refine' parse_for ?f ?n ?k1 ?k0 ?k2 ?k3 ?k4 ?c1 ?c2 ?c3 ?hE ?_ ?_; (case f => assumption); (case n => assumption); (case k1 => exact rfl); (case k0 => exact rfl); (case k2 => exact rfl); (case k3 => exact rfl); (case k4 => exact rfl); (case c1 => exact rfl); (case c2 => exact rfl); (case c3 => exact rfl); (case hE => passes_own); (first | (intro q9 us9 k9 tp9 pre9 post9 n9 t9 u9 h9 tk9 own9 hE9 hO9 hS9 hq9 hl19 hl29 F9 N9; (have hMk9 := kstMark); (have hP9 := pre_lt hE9); (have hO19 := one_len n9); (have hU9 := StrsAre.length hS9)) | skip); (all_goals first | (intro q9 us9 k9 tp9 u9 h9 tk9 hS9 hq9 hl19 hl29 F9 N9; (have hU9 := StrsAre.length hS9)) | skip)))

theorem app_c {A : Around} {E : Value → Shared → Prop} {h₀ : Heap} {L : Addr} {m : Str → Option Value} {own : List (Addr × Obj)} {Q : Value → Shared → Prop} {r : Addr} {us : List Value} {k : Nat} {x : Value} (F : Fr h₀ L s.heap m) (N : News h₀ L s.heap ((r, listOf us.toArray k) :: own)) (ho : OwnOff own [r]) (hsz : us.length ≤ 100000)
    (h : ∀ h', Fr h₀ L h' m → News h₀ L h' ((r, listOf (us ++ [x]).toArray (k + 1)) :: own) → Q .none { s with heap := h' }) : wpAny (model prg w) A (call (.builtin "list.append") [.ref r, x]) Q E s := by
  refine append_K F N (.head (fun p hp => ho p hp r (.head _))) (fun h' F' N' => h h' F' ?_) (by simp only [List.size_toArray]; exact Nat.le_trans hsz (by decide))
  rw [List.push_toArray] at N'
  exact N'
local macro_rules | `(tactic| walk_at "call builtin:list.append") => `(tactic| (refine app_c (by assumption) (by assumption) (by first | assumption | (intro p hp; exact nomatch hp)) (by omega) ?_; intro h8 F8 N8))
/-- what one turn does -/
inductive HT (q : HS) (n : Nat) : List Str → Str → Bool → Bool → Prop
  | a : q.esc = true → HT q n q.res (q.part ++ ⟨#[n]⟩) false q.quo
  | b : q.esc = false → q.quo = true → ((⟨#[n]⟩ : Str) == Str.ofString "\\") = true → HT q n q.res q.part true q.quo
  | c : q.esc = false → q.quo = true → ((⟨#[n]⟩ : Str) == Str.ofString "\\") = false → ((⟨#[n]⟩ : Str) == Str.ofString "\"") = true → HT q n q.res (q.part ++ ⟨#[n]⟩) q.esc false
  | d : q.esc = false → q.quo = true → ((⟨#[n]⟩ : Str) == Str.ofString "\\") = false → ((⟨#[n]⟩ : Str) == Str.ofString "\"") = false → HT q n q.res (q.part ++ ⟨#[n]⟩) q.esc q.quo
  | e : q.esc = false → q.quo = false → ((⟨#[n]⟩ : Str) == Str.ofString ",") = true → HT q n (q.res ++ [q.part]) (Str.ofString "") q.esc q.quo
  | f : q.esc = false → q.quo = false → ((⟨#[n]⟩ : Str) == Str.ofString ",") = false → ((⟨#[n]⟩ : Str) == Str.ofString "\"") = true → HT q n q.res (q.part ++ ⟨#[n]⟩) q.esc true
  | g : q.esc = false → q.quo = false → ((⟨#[n]⟩ : Str) == Str.ofString ",") = false → ((⟨#[n]⟩ : Str) == Str.ofString "\"") = false → HT q n q.res (q.part ++ ⟨#[n]⟩) q.esc q.quo
theorem one_beq (n c : Nat) (t : String) (h : Str.ofString t = ⟨#[c]⟩) : ((⟨#[n]⟩ : Str) == Str.ofString t) = decide (n = c) := by
  rw [h, Bool.eq_iff_iff, beq_iff_eq, decide_eq_true_iff]
  simp
theorem HT.is {q : HS} {n : Nat} {r p e u} (h : HT q n r p e u) : hstep q n = ⟨r, p, e, u⟩ := by
  have e1 := one_beq n 92 "\\" rfl
  have e2 := one_beq n 34 "\"" rfl
  have e3 := one_beq n 44 "," rfl
  cases q with | mk qr qp qe qu =>
  cases h <;> simp_all [hstep]
theorem hstep_part (q : HS) (n : Nat) : (hstep q n).part.length ≤ q.part.length + 1 := by
  have e : ∀ p : Str, (p ++ (⟨#[n]⟩ : Str)).length = p.length + 1 := fun p => by
    show (p.cps ++ #[n]).size = p.cps.size + 1
    simp
  have z : (Str.ofString "").length = 0 := rfl
  unfold hstep
  repeat' split
  all_goals simp only [e, z]
  all_goals omega
theorem hstep_res (q : HS) (n : Nat) : (hstep q n).res.length ≤ q.res.length + 1 := by
  unfold hstep
  repeat' split
  all_goals simp
theorem parse_end {h₀ h' : Heap} {L : Addr} {m₀ m' : Str → Option Value} {q : HS} {us' : List Value} {k' : Nat} {t' : Tok} {pre : List Int} {n : Nat} {own : List (Addr × Obj)} {r : Addr} {s₁ : Shared} {tk : Nat} {res' : List Str} {part' : Str} {esc' quo' : Bool}
    (F : Fr h₀ L h' m') (N : News h₀ L h' ((r, listOf us'.toArray k') :: own))
    (h1 : m' (Str.ofString "part") = some (.str part' t')) (h2 : m' (Str.ofString "escape") = some (.bool esc')) (h3 : m' (Str.ofString "quote") = some (.bool quo'))
    (hS : StrsAre us' res') (hq : q = hrun (pre.map Int.toNat)) (hl1 : q.part.length ≤ pre.length) (hl2 : q.res.length ≤ pre.length) (hst : HT q n res' part' esc' quo')
    (h4 : ∀ z, z ≠ Str.ofString "cur" → z ≠ Str.ofString "part" → z ≠ Str.ofString "escape" → z ≠ Str.ofString "quote" → m' z = m₀ z) :
    InvEndN h₀ L (KstS (fun c : CS => [(r, listOf c.us.toArray c.n)]) (fun c => [(Str.ofString "part", .str c.q.part c.t), (Str.ofString "escape", .bool c.q.esc), (Str.ofString "quote", .bool c.q.quo)]) (fun c => StrsAre c.us c.q.res) (Str.ofString "cur") [] m₀ (fun pre c => c.q = hrun (pre.map Int.toNat) ∧ c.q.part.length ≤ pre.length ∧ c.q.res.length ≤ pre.length) (pre ++ [(n : Int)])) own [r] s₁ { s₁ with heap := h', toks := tk } := by
  have e := hst.is
  have e' : hrun ((pre ++ [(n : Int)]).map Int.toNat) = ⟨res', part', esc', quo'⟩ := by
    rw [← e, hq]
    simp [hrun, List.foldl_append]
  have l1 := hstep_part q n
  have l2 := hstep_res q n
  rw [e] at l1 l2
  refine kst_end (⟨⟨res', part', esc', quo'⟩, us', k', t'⟩ : CS) F N ?_ ?_ rfl hS ?_ ?_ ⟨e'.symm, ?_, ?_⟩
  · intro p hp
    rw [List.mem_singleton.mp hp]
    exact .head _
  · intro p hp
    exact List.mem_cons_of_mem _ hp
  · intro p hp
    simp only [List.mem_cons, List.not_mem_nil, or_false] at hp
    rcases hp with rfl | rfl | rfl
    · exact h1
    · exact h2
    · exact h3
  · intro z hz hp _
    exact h4 z hz (hp _ (.head _)) (hp _ (.tail _ (.head _))) (hp _ (.tail _ (.tail _ (.head _))))
  · rw [List.length_append, List.length_singleton]
    dsimp only at l1 ⊢
    omega
  · rw [List.length_append, List.length_singleton]
    dsimp only at l2 ⊢
    omega
local macro_rules | `(tactic| walk_at "InvEndN") => `(tactic| (refine parse_end (by assumption) (by assumption) rfl rfl rfl (by first | assumption | exact StrsAre.append' (by assumption) (.cons _ _ .nil)) (by assumption) (by assumption) (by assumption) (by first | exact .a (by assumption) | exact .b (by assumption) (by assumption) (by assumption) | exact .c (by assumption) (by assumption) (by assumption) (by assumption) | exact .d (by assumption) (by assumption) (by assumption) (by assumption) | exact .e (by assumption) (by assumption) (by assumption) | exact .f (by assumption) (by assumption) (by assumption) (by assumption) | exact .g (by assumption) (by assumption) (by assumption) (by assumption)) (by intro z e1 e2 e3 e4; (simp only [e1, e2, e3, e4, if_false]); (try rfl))))

theorem strip_el {A : Around} {E : Value → Shared → Prop} {x y : Str} {t : Tok} {C : Addr} {m₂ : Str → Option Value} {Q : Value → Shared → Prop} {scope : Scope} {env : Env} {p1 p2 p3 : Pos} (hn : s.heap.Ns C m₂) (hv : m₂ x = some (.str y t)) (hy : y.length ≤ 100000)
    (hline : (p2.endLine == p3.line) = true) (hk : (compEnvC scope [] C env).scope.kind = .function) (hl : (compEnvC scope [] C env).kindOf x = some .local) (hd : (x == ("__debug__" : Str)) = false) (hb : attributeBase (.Name x p1) (Str.ofString "strip") (compEnvC scope [] C env) (eval (.Name x p1) (compEnvC scope [] C env)) = eval (.Name x p1) (compEnvC scope [] C env))
    (h : ∀ t' k', Q (.str (Txt.strip y) t') { s with toks := k' }) :
    wpAny (model prg w) A (eval (.Call (.Attribute (.Name x p1) (Str.ofString "strip") p2) [] [] p3) (compEnvC scope [] C env)) Q E s :=
  wpAny_Call_method_lateS hb rfl hline (ldVarK hn hv (SBL.strip (fun t' k _ => h t' k) (Nat.le_trans hy (by decide))) hk hl hd)

theorem hrun_snoc (l : List Nat) (c : Nat) : hrun (l ++ [c]) = hstep (hrun l) c := by simp [hrun, List.foldl_append]
theorem hstep_items (q : HS) (c : Nat) (k : Nat) (h1 : q.part.length ≤ k) (h2 : ∀ y ∈ q.res, y.length ≤ k) : ∀ y ∈ (hstep q c).res, y.length ≤ k + 1 := by
  intro y hy
  have h2' : y ∈ q.res → y.length ≤ k + 1 := fun h => Nat.le_succ_of_le (h2 y h)
  unfold hstep at hy
  split at hy
  · exact h2' hy
  · split at hy
    · split at hy
      · exact h2' hy
      · exact h2' hy
    · split at hy
      · rcases List.mem_append.mp hy with hy | hy
        · exact h2' hy
        · rw [List.mem_singleton.mp hy]; omega
      · exact h2' hy
theorem hrun_items (l : List Nat) : (hrun l).part.length ≤ l.length ∧ ∀ y ∈ (hrun l).res, y.length ≤ l.length := by
  suffices h : ∀ n (l : List Nat), l.length = n → (hrun l).part.length ≤ l.length ∧ ∀ y ∈ (hrun l).res, y.length ≤ l.length from h _ l rfl
  intro n
  induction n with
  | zero => intro l e; rw [List.length_eq_zero_iff.mp e]; exact ⟨Nat.le_refl _, fun _ h => nomatch h⟩
  | succ n ih =>
    intro l e
    obtain ⟨l', c, rfl⟩ : ∃ l' c, l = l' ++ [c] := ⟨l.dropLast, l.getLast (by intro z; rw [z] at e; cases e), (List.dropLast_concat_getLast _).symm⟩
    have e' : l'.length = n := by simpa using e
    obtain ⟨a, b⟩ := ih l' e'
    rw [hrun_snoc, List.length_append, List.length_singleton]
    have := hstep_part (hrun l') c
    exact ⟨by omega, hstep_items _ _ _ a b⟩
theorem q_items {x : Str} {q : HS} (h : q = hrun x.cps.toList) (hx : x.length ≤ 2000) : q.part.length ≤ 100000 ∧ (∀ y ∈ q.res, y.length ≤ 100000) ∧ ∀ y ∈ q.res ++ [q.part], y.length ≤ 100000 := by
  have e : x.cps.toList.length = x.length := by show x.cps.toList.length = x.cps.size; simp
  obtain ⟨a, b⟩ := hrun_items x.cps.toList
  rw [← h, e] at a b
  have b' : ∀ y ∈ q.res, y.length ≤ 100000 := fun y hy => by have := b y hy; omega
  refine ⟨by omega, b', fun y hy => ?_⟩
  rcases List.mem_append.mp hy with hy | hy
  · exact b' y hy
  · rw [List.mem_singleton.mp hy]; omega
local macro_rules | `(tactic| walk_at "eval ListComp") => `(tactic| ((refine comp_strs Txt.strip (by assumption) (by assumption) (by first | assumption | exact StrsAre.append' (by assumption) (.cons _ _ .nil)) (by (try simp only [List.length_append, List.length_singleton]); omega) rfl (by with_unfolding_all rfl) (by decide) rfl (by decide) rfl (fun Q' hQ => ld (by assumption) rfl hQ rfl rfl (by decide)) (fun _ => rfl) (fun y hy t C m₂ s' Q' E' hn hv hQ => strip_el hn hv (by first | exact (q_items (by assumption) (by assumption)).2.1 y hy | exact (q_items (by assumption) (by assumption)).2.2 y hy) rfl rfl rfl (by decide) rfl hQ) ?_); intro D7 h7 tk7 vs7 hV7 F7 N7))
theorem parseT_app {x : Str} {q : HS} (e : q = hrun x.cps.toList) (n : ¬ q.part.length = 0) : List.map Txt.strip (q.res ++ [q.part]) = parseT x := by
  unfold parseT
  rw [← e]
  dsimp only
  rw [if_neg n]
theorem parseT_nil {x : Str} {q : HS} (e : q = hrun x.cps.toList) (n : q.part.length = 0) : List.map Txt.strip q.res = parseT x := by
  unfold parseT
  rw [← e]
  dsimp only
  rw [if_pos n]
theorem parse_c (x : Str) (t : Tok) (hx : x.length ≤ 2000) (B : Below (AA dp un gd outer) base outer g) (X : (KK w.params).In g) (T : Top tp loose mean mg mb g) (P : Pre g s.heap []) (hd : dp + 2 < recursionLimit) (hu : un + 20 < cLine)
    (h : ∀ a vs h' tk', StrsAre vs (parseT x) → Pre g h' [(a, LCg.lst vs)] → R (.ok (.ret (.ref a))) { s with heap := h', toks := tk' }) :
    codeAny (model prg w) (AA dp un gd outer) (.call (.ref 764) ⟨[.str x t], []⟩) R s := by
  w_on
  k_dflt (refine' enter P X T ?k6 ?k7 ?k8 ?k9 ?kB ?_ ?c5 ?c2 ?c3 ?c4; (case k6 => k_is); (case k7 => k_is); (case k8 => first | exact room0 (by assumption) | omega); (case k9 => exact BindsTo.of_eq rfl); (case c5 => decide); (case kB => exact locs rfl); (case c2 => exact rfl); (case c3 => exact rfl); (case c4 => exact rfl))
  intro L' h₁ F N hlt
  (try dsimp only)
  have hq : ∀ (a : Addr) vs (ys : List Str) h' tk', StrsAre vs (ys.map Txt.strip) → ys.map Txt.strip = parseT x → Pre g h' [(a, LCg.lst vs)] → R (.ok (.ret (.ref a))) { s with heap := h', toks := tk' } := fun a vs ys h' tk' e1 e2 p => h a vs h' tk' (e2 ▸ e1) p
  clear h
  (try k_fold)
  w_strict k_steps
  all_goals (refine hq _ _ _ _ _ (by assumption) ?_ (Pre.of_fr (by assumption) (by assumption) (fun _ h => by rw [List.mem_singleton.mp h]; exact .head _)))
  · exact parseT_app (by assumption) (by omega)
  · exact parseT_nil (by assumption) (by omega)
end
end Mine

end
section
open PySem PySem.W PySem.Calls PyProof.Rows
set_option Elab.async false
set_option maxRecDepth 100000
set_option maxHeartbeats 800000
set_option compiler.extract_closed false
namespace Mine
theorem fillK_J : (PySem.Challenge.rw_mq0407_01 = PySem.Challenge.rw_mq0407_01) ∧ KK = KK := by
  k_fill
  exact ⟨rfl, rfl⟩
/-- the table of the codes laid within a def -/
abbrev JT (ps : Array Value) : Obj := { cls := .none, data := .fields ps }
section
variable {w : World} {tp : Program} {loose : List Str} {mean : ExcName → Option Value} {mg mb : Str → Option Value} {base g : Heap} {outer : List Env} {s : Shared} {dp un : Nat} {gd : Option (List Code)} {R : Result → Shared → Prop} {fp : List (Addr × Obj)} {fr : Option (List Env)}

theorem gen_code {M : Model} {A : Around} {E : Value → Shared → Prop} {env : Env} {c P : Addr} {ps : Array Value} {pos : Pos} {qn : Str} {scope : Scope} {Q : Value → Shared → Prop} (hc : env.code = .ref c) (hok : s.heap.IsCode c P ps) (htab : s.heap.TableAt c P ps)
    (hQ : ∀ c' h' tk more, Heap.ExtBut P s.heap h' → s.heap.objs.size ≤ h'.objs.size → h'.TableAt c P (ps ++ more) → TriplesOk (ps ++ more).toList → Q c' { s with heap := h', toks := tk }) :
    wpAny M A (genexprCode env pos qn scope) Q E s := by
  have htr : TriplesOk ps.toList := by obtain ⟨_, _, _, _, _, _, _, _, _, _, _, _, _, _, _, _, _, _, _, h, _⟩ := hok; exact h
  cases hnf : codeAmong pos ps.toList with
  | some c' => exact wpAny_genexprCode_hit hc hok hnf (hQ c' s.heap s.toks #[] (Heap.ExtBut.refl _ _) (Nat.le_refl _) (by simpa using htab) (by simpa using htr))
  | none =>
    refine wpAny_genexprCodeX hc hok htab hnf fun c' h' tk hx hge hlt hcode _ htab' _ => hQ _ h' tk _ hx (Nat.le_trans hge (Nat.le_of_lt hlt)) htab' ?_
    obtain ⟨_, _, _, _, _, _, _, _, _, op, _, _, _, _, _, _, _, hp, hd, h, _⟩ := hcode
    exact h

theorem is_fn {K : Frag} {a : Addr} {name qual : Str} {params : Arguments} {body : List Stmt} {scope : Scope} {dV kV doc pm cdv ct oc : Value} {an od : Option Addr} {osl : Array (Option Value)} (h : K.lookup a = some ⟨oc, od, .func (fnOf name qual params body scope dV kV doc pm an cdv ct), osl⟩) : ∃ o, K.lookup a = some o ∧ ∃ fd, o.data = .func fd := ⟨_, h, _, rfl⟩
/-- one element: quote(arg) -/
theorem quote_el {A : Around} {E : Value → Shared → Prop} {C : Addr} {code : Value} {env : Env} {y : Str} {t : Tok} {m₂ : Str → Option Value} {Q : Value → Shared → Prop} {gs : Scope} {p1 p2 p3 : Pos} (hh : A.handled = none) (hd : A.depth + 2 < recursionLimit) (hu : A.units + 20 < cLine)
    (hn : s.heap.Ns C m₂) (hv : m₂ (Str.ofString "arg") = some (.str y t)) (X : (KK w.params).In s.heap) (T : Top tp loose mean mg mb s.heap) (hy : y.length ≤ 2000) (hg : env.globals = mainGlobals)
    (hk : gs.kind = .function) (hl : (genEnv gs [] C code builtinsNs env).kindOf (Str.ofString "arg") = some .local) (hl2 : (genEnv gs [] C code builtinsNs env).kindOf (Str.ofString "quote") = some .globalImplicit)
    (hb : backTo p3 (starEach [.Name (Str.ofString "arg") p2] (genEnv gs [] C code builtinsNs env)) = [(false, eval (.Name (Str.ofString "arg") p2) (genEnv gs [] C code builtinsNs env))])
    (hQ : ∀ t' h' tk', (∀ b o, s.heap.get? b = some o → h'.get? b = some o) → Q (.str (quoteT y) t') { s with heap := h', toks := tk' }) :
    wpAny (model prg w) A (eval (.Call (.Name (Str.ofString "quote") p1) [.Name (Str.ofString "arg") p2] [] p3) (genEnv gs [] C code builtinsNs env)) Q E s := by
  obtain ⟨hd', dp, fr, gd, un⟩ := A
  obtain rfl : hd' = none := hh
  have e : mg (Str.ofString "quote") = some (.ref 759) := mg_of X T.g (by k_is)
  obtain ⟨oQ, ho, fd, hfd⟩ : ∃ o, (KK w.params).lookup 759 = some o ∧ ∃ fd, o.data = .func fd := by
    k_dflt (refine' is_fn ?k1; (case k1 => k_is))
  refine wpAny_Call_NameR (Name_function_global hk hl2 (loadGlobal_global (env := genEnv gs [] C code builtinsNs env) (show s.heap.Ns env.globals mg from hg ▸ T.g) e ?_) (by decide))
  rw [hb]
  refine callWith_function_kw (evalArgs_plain (spliced_cons (wpAny_Name (wpAny_loadName_local hk hl hn hv (spliced_nil ⟨⟨X _ _ ho, hfd⟩, ?_⟩)) (by decide))))
  exact wpAny_call (quote_c (g := s.heap) y t hy X T ⟨fun _ _ e => e, Nat.le_refl _, fun _ h => nomatch h⟩ hd hu fun t' h' tk' P => hQ t' h' tk' P.keep)

theorem passing_all (n : Nat) : passing (fun _ => true) n 0 = List.range n := by
  unfold passing
  rw [List.drop_zero]
  exact List.filter_eq_self.mpr fun _ _ => rfl

theorem is_code {K : Frag} {a P : Addr} {vs : Array Value} {od : Option Addr} {sl : Array (Option Value)} {file : Str} {tf tg tt : Tok} {flags text : Int} {inF : Bool} {ps : Array Value} {h : Heap} (hl : K.lookup a = some ⟨.type "code", od, .fields vs, sl⟩) (X : K.In h) (hP : h.get? P = some (JT ps)) (htr : TriplesOk ps.toList) (hne : a ≠ P)
    (h1 : vs.getD 11 .none = .ref P) (h2 : vs.getD 18 .none = .str file tf) (h3 : vs.getD 7 .none = .int flags tg) (h4 : vs.getD 9 .none = .bool inF) (h5 : vs.getD 10 .none = .int text tt) (h6 : vs[11]? = some (.ref P)) : h.IsCode a P ps ∧ h.TableAt a P ps :=
  ⟨⟨_, vs, file, tf, flags, tg, inF, text, tt, _, X _ _ hl, rfl, h1, h2, h3, h4, h5, hP, rfl, htr, hne⟩, ⟨⟨_, vs, X _ _ hl, rfl, rfl, h6⟩, hP⟩⟩

/-- join's table -/
theorem join_code {h : Heap} {ps : Array Value} (X : (KK w.params).In h) (hP : h.get? 746 = some (JT ps)) (htr : TriplesOk ps.toList) : h.IsCode 750 746 ps ∧ h.TableAt 750 746 ps := by
  k_dflt (refine' is_code ?k1 X hP htr ?k2 ?k3 ?k4 ?k5 ?k6 ?k7 ?k8; (case k1 => k_is); (case k2 => decide); (case k3 => rfl); (case k4 => rfl); (case k5 => rfl); (case k6 => rfl); (case k7 => rfl); (case k8 => rfl))

theorem gen_K {A : Around} {E : Value → Shared → Prop} {L r f : Addr} {m : Str → Option Value} {ps : Array Value} {Q : Value → Shared → Prop} {us : List Value} {k : Nat} {ss : List Str} {name : Str} {sc gs : Scope} {p1 p2 p3 p4 p5 p6 : Pos}
    (hh : A.handled = none) (hroom : A.depth + 4 < recursionLimit) (hun : A.units + 40 < cLine) (F : Fr g L s.heap m) (N : News g L s.heap [(746, JT ps)]) (X : (KK w.params).In g) (T : Top tp loose mean mg mb g) (htr : TriplesOk ps.toList) (hlt : 746 < L)
    (hr : g.get? r = some (listOf us.toArray k)) (hS : StrsAre us ss) (hlen : ∀ y ∈ ss, y.length ≤ 2000) (hb : AllBare s.gens) (hm : m (Str.ofString "split_command") = some (.ref r))
    (hsc : sc.kind = .function) (hl0 : (envOf name sc L f (.ref 750)).kindOf (Str.ofString "split_command") = some .local)
    (hco : gs.isCoroutine = false) (hclos : closureFor gs (envOf name sc L f (.ref 750)) = pure []) (hcell : ∀ y ∈ gs.names, y.2 ≠ .cell) (h0 : gs.names.lookup (".0" : Str) = some NameKind.local)
    (hx : gs.names.lookup (Str.ofString "arg") = some .local) (hkind : gs.kind = .function) (hfold : ∀ x, genFold (.Name (Str.ofString "split_command") p5) (envOf name sc L f (.ref 750)) x = pure x)
    (hl : ∀ C code, (genEnv gs [] C code builtinsNs (envOf name sc L f (.ref 750))).kindOf (Str.ofString "arg") = some .local) (hl2 : ∀ C code, (genEnv gs [] C code builtinsNs (envOf name sc L f (.ref 750))).kindOf (Str.ofString "quote") = some .globalImplicit)
    (hbk : ∀ C code, backTo p3 (starEach [.Name (Str.ofString "arg") p2] (genEnv gs [] C code builtinsNs (envOf name sc L f (.ref 750)))) = [(false, eval (.Name (Str.ofString "arg") p2) (genEnv gs [] C code builtinsNs (envOf name sc L f (.ref 750))))])
    (h : ∀ a more (s₅ : Shared), Fr g L s₅.heap m → News g L s₅.heap [(746, JT (ps ++ more))] → TriplesOk (ps ++ more).toList → AllBare s₅.gens → s₅.os = s.os →
      Gen prg w A L a (passing (fun _ => true) us.toArray.size 0).length (fun j y => ∃ i, (passing (fun _ => true) us.toArray.size 0)[j]? = some i ∧ ∃ z u, ss[i]? = some z ∧ y = .str (quoteT z) u) s₅ → Q (.ref a) s₅) :
    wpAny (model prg w) A (eval (.GeneratorExp (.Call (.Name (Str.ofString "quote") p1) [.Name (Str.ofString "arg") p2] [] p3) [⟨.Name (Str.ofString "arg") p4, .Name (Str.ofString "split_command") p5, [], 0⟩] gs p6) (envOf name sc L f (.ref 750))) Q E s := by
  have hlist : s.heap.IsList r us.toArray := ⟨_, F.keep _ _ hr, rfl, _, rfl⟩
  have hrlt : r < s.heap.objs.size := Heap.lt_size (F.keep _ _ hr)
  have hlenS : us.length = ss.length := StrsAre.length hS
  refine wpAny_GeneratorExp_walksQD hh hco hclos hcell h0 hx hkind (by omega) (ld F hm ?_ hsc hl0 (by decide)) hfold
  refine wpAny_pyIter_list hlist ?_
  have F₂ := F.keeps (h' := s.heap.push { cls := .type "list_iterator", data := .fields #[.ref r, .int 0 0] }) fun _ _ e => Heap.get?_push_of_some _ e
  have hl₂ := (T.keeps F₂.keep).nolimit
  have h746 : s.heap.get? 746 = some (JT ps) := (N _ (.head _)).1
  have hr746 : r ≠ 746 := fun e => by
    have := (N _ (.head _)).2.2
    rw [e] at hr
    rw [hr] at this; cases this
  obtain ⟨hC, hT⟩ := join_code (X.keeps F₂.keep) (Heap.get?_push_of_some _ h746) htr
  refine ⟨hl₂, gen_code (c := 750) (P := 746) rfl hC hT fun c' h₃ tk₃ more hx₃ hsz hT₃ htr₃ => ?_⟩
  have hsz' : s.heap.objs.size < h₃.objs.size := Nat.lt_of_lt_of_le (by rw [Heap.size_push]; exact Nat.lt_succ_self _) hsz
  have hg746 : g.get? 746 = none := (N _ (.head _)).2.2
  have F₃ : Fr g L h₃ m := by
    refine ⟨?_, fun b o e => hx₃ b o (fun z => by rw [z, hg746] at e; cases e) (F₂.keep b o e), F.above⟩
    obtain ⟨oL, es, ep, hL, rr⟩ := F₂.ns
    exact ⟨oL, es, ep, hx₃ _ _ (Nat.ne_of_gt hlt) hL, rr⟩
  have N₃ : News g L h₃ [(746, JT (ps ++ more))] := fun p hp => by
    rw [List.mem_singleton.mp hp]
    exact ⟨hT₃.2, Nat.ne_of_lt hlt, hg746⟩
  have T₃ := T.keeps F₃.keep
  obtain ⟨bm, ob, b1, b2, b3, b4, b5, b6⟩ := T₃.bmain
  refine wpAny_builtinsFor (s := { s with heap := h₃, toks := tk₃ }) T₃.g b1 b2 b3 b4 b5 b6 ?_
  have hit : h₃.IsListIter s.heap.objs.size r 0 := ⟨_, hx₃ _ _ (fun z => by rw [← z] at h746; exact Nat.lt_irrefl _ (Heap.lt_size h746)) (Heap.get?_push_size _ rfl), rfl, rfl⟩
  have hli : h₃.IsList r us.toArray := ⟨_, F₃.keep _ _ hr, rfl, _, rfl⟩
  have hcst : cStatics < s.heap.objs.size := by
    obtain ⟨_, hn, _⟩ := (T.keeps F.keep).nolimit
    exact hn.lt
  refine ⟨s.heap.objs.size, [s.heap.objs.size, r], [s.heap.objs.size], us.toArray.size, _, _, fun _ => true, fun i y => ∃ z u, ss[i]? = some z ∧ y = .str (quoteT z) u, rfl,
    (fun A' hA => Walks.list hA _ _ (Nat.ne_of_lt hrlt) us.toArray), ⟨hit, hli⟩, ?_, T₃.nolimit, ?_, ?_, ?_⟩
  · intro b hb
    rcases List.mem_cons.mp hb with rfl | hb
    · exact hsz'
    · rw [List.mem_singleton.mp hb]; exact Nat.lt_trans hrlt hsz'
  · intro hb
    rw [List.mem_singleton] at hb
    exact Nat.lt_irrefl _ (hb ▸ hcst)
  · intro href hhref
    refine ⟨fun A' E' i v s₂ m₂ hA hD hU hP hn hm hkp => ?_, fun A' E' i v s₂ m₂ hA hD hU hP _ hn hm hkp => ?_⟩
    · exact wpAny_pure ⟨rfl, _, _, rfl, fun _ _ e => e⟩
    · obtain ⟨y, t, rfl, hyi⟩ := StrsAre.item hS i v (by simpa using hP)
      have kp : ∀ b o, g.get? b = some o → s₂.heap.get? b = some o := fun b o e =>
        hkp b (List.mem_range.mpr (Heap.lt_size (F₃.keep b o e))) (fun z => by
          have : b < s.heap.objs.size := Nat.lt_of_lt_of_le (Heap.lt_size e) (Nat.le_trans F.above (Nat.le_of_lt F.ns.lt))
          exact Nat.ne_of_lt this (List.mem_singleton.mp z)) o (hhref b o (F₃.keep b o e))
      refine quote_el hA (by omega) (by omega) hn hm (X.keeps kp) (T.keeps kp) (hlen y (List.mem_of_getElem? hyi)) rfl hkind (hl _ _) (hl2 _ _) (hbk _ _) fun t' h' tk' hk => ⟨⟨y, t', hyi, rfl⟩, h', tk', rfl, hk⟩
  · intro a h₅ tk gs' hgb hag hsz₅ hk₅ W hat
    refine h a more _ (F₃.keeps hk₅) (fun p hp => ⟨hk₅ _ _ (N₃ p hp).1, (N₃ p hp).2⟩) htr₃ (hb.push hgb) rfl ⟨_, _, _, _, W, hat, (fun i s' st => st.1.typeIs), List.mem_cons_self, ?_, ?_⟩
    · intro b hb
      show b < h₅.objs.size
      rw [hsz₅]
      rcases List.mem_cons.mp hb with rfl | hb
      · exact Nat.lt_succ_self _
      · rcases List.mem_cons.mp hb with rfl | hb
        · exact Nat.lt_succ_of_lt hag
        · exact Nat.lt_succ_of_lt (Nat.lt_trans (List.mem_range.mp hb) hag)
    · intro b hb
      have hL : L < s.heap.objs.size := F.ns.lt
      rcases List.mem_cons.mp hb with rfl | hb
      · exact Nat.lt_trans hL hsz'
      · rw [List.mem_singleton.mp hb]; exact hL

/-- a join's text -/
def joinT (ss : List Str) : Str := Txt.join (Str.ofString " ") (ss.map quoteT)
theorem quoteT_len (x : Str) : (quoteT x).length ≤ 6 * x.length + 2 := by
  have hr := replace_len x
  have e : ∀ p q : Str, (p ++ q).length = p.length + q.length := fun p q => by
    show (p.cps ++ q.cps).size = p.cps.size + q.cps.size
    simp
  have e1 : (Str.ofString "'").length = 1 := rfl
  have e2 : (Str.ofString "''").length = 2 := rfl
  unfold quoteT
  split
  · omega
  · split
    · omega
    · rw [e, e]; omega
theorem sum_le {α : Type} (f : α → Nat) (c : Nat) : ∀ l : List α, (∀ a ∈ l, f a ≤ c) → (l.map f).sum ≤ l.length * c
  | [], _ => by simp
  | a :: r, h => by
    have h1 := h a (List.mem_cons_self ..)
    have h2 := sum_le f c r fun b hb => h b (List.mem_cons_of_mem _ hb)
    rw [List.map_cons, List.sum_cons, List.length_cons, Nat.add_mul, Nat.one_mul]
    omega
theorem joinOk_words (ss : List Str) (h1 : ss.length ≤ 500) (h2 : ∀ y ∈ ss, y.length ≤ 300) : JoinOk (Str.ofString " ") (ss.map quoteT) = true := by
  refine joinOk_of_weight ?_ (by decide)
  have := sum_le (fun y : Str => y.length) 1802 (ss.map quoteT) fun y hy => by
    obtain ⟨z, hz, rfl⟩ := List.mem_map.mp hy
    have a := quoteT_len z
    have b := h2 z hz
    omega
  simp only [List.length_map] at this ⊢
  omega

theorem join_K {A : Around} {E : Value → Shared → Prop} {L a : Addr} {m : Str → Option Value} {ps : Array Value} {Q : Value → Shared → Prop} {us : List Value} {ss : List Str} {t : Tok} (F : Fr g L s.heap m) (N : News g L s.heap [(746, JT ps)]) (hb : AllBare s.gens) (hlt : 746 < L)
    (G : Gen prg w A L a (passing (fun _ => true) us.toArray.size 0).length (fun j y => ∃ i, (passing (fun _ => true) us.toArray.size 0)[j]? = some i ∧ ∃ z u, ss[i]? = some z ∧ y = .str (quoteT z) u) s) (hS : StrsAre us ss) (h1 : ss.length ≤ 500) (h2 : ∀ y ∈ ss, y.length ≤ 300)
    (h : ∀ (s' : Shared) t', Fr g L s'.heap m → News g L s'.heap [(746, JT ps)] → AllBare s'.gens → s'.os = s.os → Q (.str (joinT ss) t') s') :
    wpAny (model prg w) A (call (.builtin "str.join") [.str (Str.ofString " ") t, .ref a]) Q E s := by
  have hlen : us.length = ss.length := StrsAre.length hS
  rw [passing_all, List.length_range, List.size_toArray] at G
  have e : (List.range us.length).map (fun j => quoteT (ss.getD j (Str.ofString ""))) = ss.map quoteT := by
    rw [hlen]
    apply List.ext_getElem
    · simp
    · intro i h1 h2
      simp at h1 h2
      simp [h1]
  refine join_rowsK F hb G (Nat.le_refl _) (fun j => quoteT (ss.getD j (Str.ofString ""))) ?_ ?_ ?_ ?_
  · rintro j v ⟨i, hi, z, u, hz, rfl⟩
    have : j = i := by
      have := List.getElem?_eq_some_iff.mp hi
      obtain ⟨_, q⟩ := this
      simpa using q
    subst this
    exact ⟨u, by simp [List.getD, hz]⟩
  · rw [e]; exact joinOk_words ss h1 h2
  · intro s' t' F' b' o' k'
    rw [e]
    exact h s' t' F' (fun p hp => by
      rw [List.mem_singleton.mp hp]
      exact ⟨k' _ _ (Nat.le_of_lt hlt) (N _ (.head _)).1, (N _ (.head _)).2⟩) b' o'
  · exact Nat.le_trans (by omega : us.length ≤ 500) (by decide)
local macro_rules | `(tactic| walk_at "eval GeneratorExp") => `(tactic| (refine gen_K rfl (by simp only [Around.deeper]; omega) (by simp only [Around.deeper]; omega) (by assumption) (by assumption) (by assumption) (by assumption) (by assumption) (by assumption) (by assumption) (by assumption) (by assumption) (by assumption) rfl rfl rfl rfl (by with_unfolding_all rfl) (by decide) (by decide) (by decide) rfl (fun _ => rfl) (fun _ _ => rfl) (fun _ _ => rfl) (fun _ _ => rfl) ?_; intro a9 more9 s9 F9 N9 htr9 hb9 ho9 hG9))
local macro_rules | `(tactic| walk_at "call builtin:str.join") => `(tactic| (refine join_K (by assumption) (by assumption) (by assumption) (by assumption) (by assumption) (by assumption) (by assumption) (by assumption) ?_; intro s8 t8 F8 N8 hb8 ho8))
theorem join_c (r : Addr) (us : List Value) (k : Nat) (ss : List Str) (ps : Array Value) (B : Below (AA dp un gd outer) base outer g) (X : (KK w.params).In g) (T : Top tp loose mean mg mb g) (P : Pre g s.heap [(746, JT ps)]) (htr : TriplesOk ps.toList) (hr : g.get? r = some (listOf us.toArray k)) (hS : StrsAre us ss) (h1 : ss.length ≤ 500) (h2 : ∀ y ∈ ss, y.length ≤ 300) (hb : AllBare s.gens)
    (hd : dp + 6 < recursionLimit) (hu : un + 60 < cLine)
    (h : ∀ t' more (s' : Shared), Pre g s'.heap [(746, JT (ps ++ more))] → TriplesOk (ps ++ more).toList → AllBare s'.gens → s'.os = s.os → R (.ok (.ret (.str (joinT ss) t'))) s') :
    codeAny (model prg w) (AA dp un gd outer) (.call (.ref 751) ⟨[.ref r], []⟩) R s := by
  w_on
  k_dflt (refine' enter P X T ?k6 ?k7 ?k8 ?k9 ?kB ?_ ?c5 ?c2 ?c3 ?c4; (case k6 => k_is); (case k7 => k_is); (case k8 => first | exact room0 (by assumption) | omega); (case k9 => exact BindsTo.of_eq rfl); (case c5 => decide); (case kB => exact locs rfl); (case c2 => exact rfl); (case c3 => exact rfl); (case c4 => exact rfl))
  intro L' h₁ F N hlt
  have hlt' : 746 < L' := hlt _ (.head _)
  have h3 : ∀ y ∈ ss, y.length ≤ 2000 := fun y hy => Nat.le_trans (h2 y hy) (by decide)
  have hbb : AllBare ({ s with heap := h₁, toks := s.toks + 1 } : Shared).gens := hb
  (try dsimp only)
  (try k_fold)
  w_strict k_steps
  exact h _ _ _ (Pre.of_fr (by assumption) (by assumption) (fun _ h => h)) (by assumption) (by assumption) (Eq.trans (by assumption) (by assumption))
end
end Mine

end
section
open PySem PySem.W
set_option Elab.async false
set_option maxRecDepth 100000
namespace Mine
/-- a line read to its end -/
inductive Lexes : LSt → List Nat → List Str → Prop
  | stop {st r tok q st' r'} : lx st (Str.ofString "") false r = some (tok, q, st', r') → (tok.length = 0 ∧ q = false) → Lexes st r []
  | item {st r tok q st' r' ts} : lx st (Str.ofString "") false r = some (tok, q, st', r') → ¬ (tok.length = 0 ∧ q = false) → (st' = .sp ∨ st' = .nn) → Lexes st' r' ts → Lexes st r (tok :: ts)
theorem str_app_list (t : Str) (c : Nat) (l : List Nat) : t ++ (⟨(c :: l).toArray⟩ : Str) = (t ++ ⟨#[c]⟩) ++ ⟨l.toArray⟩ := by
  show (⟨t.cps ++ (c :: l).toArray⟩ : Str) = ⟨(t.cps ++ #[c]) ++ l.toArray⟩
  congr 1
  apply Array.ext'
  simp
theorem str_app_nil (t : Str) : t ++ (⟨([] : List Nat).toArray⟩ : Str) = t := by
  show (⟨t.cps ++ ([] : List Nat).toArray⟩ : Str) = t
  simp
theorem nil_app (t : Str) : Str.ofString "" ++ t = t := by
  show (⟨(Str.ofString "").cps ++ t.cps⟩ : Str) = t
  have : (Str.ofString "").cps = #[] := rfl
  rw [this]; simp
/-- a sign that ends no word -/
def bare (c : Nat) : Prop := isWs c = false ∧ c ≠ 92 ∧ c ≠ 39 ∧ c ≠ 34
theorem lx_wd_bare {q : Bool} {rest : List Nat} : ∀ (l : List Nat) (tok : Str), (∀ c ∈ l, bare c) → lx .wd tok q (l ++ rest) = lx .wd (tok ++ ⟨l.toArray⟩) q rest
  | [], tok, _ => by rw [str_app_nil]; rfl
  | c :: l, tok, h => by
    obtain ⟨h1, h2, h3, h4⟩ := h c (List.mem_cons_self ..)
    have ih := lx_wd_bare (q := q) (rest := rest) l (tok ++ ⟨#[c]⟩) fun b hb => h b (List.mem_cons_of_mem _ hb)
    rw [List.cons_append, lx, if_neg (by simp [h1]), if_neg h2, if_neg h3, if_neg h4, ih, str_app_list tok c l]
abbrev apq : List Nat := [39, 34, 39, 34, 39]
theorem lx_sq_word {rest : List Nat} : ∀ (l : List Nat) (tok : Str) (q : Bool), lx .sq tok q (sbst 39 apq l ++ 39 :: rest) = lx .wd (tok ++ ⟨l.toArray⟩) true rest
  | [], tok, q => by rw [str_app_nil]; rfl
  | c :: l, tok, q => by
    have ih := fun t q => lx_sq_word (rest := rest) l t q
    by_cases hc : c = 39
    · subst hc
      rw [show sbst 39 apq (39 :: l) = apq ++ sbst 39 apq l from rfl, List.append_assoc]
      show lx .sq tok q (39 :: 34 :: 39 :: 34 :: 39 :: (sbst 39 apq l ++ 39 :: rest)) = _
      rw [lx, if_pos rfl, lx, if_neg (by decide), if_neg (by decide), if_neg (by decide), if_pos rfl, lx, if_neg (by decide), if_neg (by decide), lx, if_pos rfl, lx, if_neg (by decide), if_neg (by decide), if_pos rfl, ih, str_app_list tok 39 l]
    · have e : sbst 39 apq (c :: l) = c :: sbst 39 apq l := by
        unfold sbst; rw [List.flatMap_cons, if_neg hc]; rfl
      rw [e, List.cons_append, lx, if_neg hc, ih, str_app_list tok c l]
theorem safe_bare {c : Nat} (h : safeC c = true) : bare c := by
  have key : ∀ d, d < 256 → safeC d = true → bare d := by
    intro d hd
    revert d
    unfold bare
    decide +kernel
  by_cases hc : c < 256
  · exact key c hc h
  · refine ⟨?_, ?_, ?_, ?_⟩
    · unfold isWs; simp; omega
    all_goals omega
theorem hasBad_no {z : Str} (h : hasBad z.cps = false) : ∀ c ∈ z.cps.toList, safeC c = true := by
  intro c hc
  unfold hasBad at h
  rw [Array.any_eq_false] at h
  obtain ⟨i, hi, rfl⟩ := List.getElem_of_mem hc
  have := h i (by simpa using hi)
  simpa using this
theorem str_eta (z : Str) : (⟨z.cps.toList.toArray⟩ : Str) = z := by simp
theorem quoteT_list (z : Str) : (quoteT z).cps.toList = if z.length = 0 then [39, 39] else if hasBad z.cps = false then z.cps.toList else 39 :: (sbst 39 apq z.cps.toList ++ [39]) := by
  unfold quoteT
  split
  · rfl
  · split
    · rfl
    · show (((Str.ofString "'").cps ++ (Txt.replace z (Str.ofString "'") (Str.ofString "'\"'\"'")).cps) ++ (Str.ofString "'").cps).toList = _
      rw [Array.toList_append, Array.toList_append, apo_is, apq_is, replace_sbst]
      rfl
/-- a word of a joined line, read -/
theorem lx_word (z : Str) (rest : List Nat) : ∃ q, (z.length = 0 → q = true) ∧ lx .sp (Str.ofString "") false ((quoteT z).cps.toList ++ rest) = lx .wd z q rest := by
  rw [quoteT_list]
  by_cases h0 : z.length = 0
  · rw [if_pos h0]
    refine ⟨true, fun _ => rfl, ?_⟩
    have : z = Str.ofString "" := by
      obtain ⟨⟨l⟩⟩ := z
      have : l = [] := List.length_eq_zero_iff.mp h0
      subst this; rfl
    subst this
    rfl
  · rw [if_neg h0]
    by_cases hb : hasBad z.cps = false
    · rw [if_pos hb]
      refine ⟨false, fun h => absurd h h0, ?_⟩
      have hs := hasBad_no hb
      cases hz : z.cps.toList with
      | nil => exact absurd (by show z.cps.size = 0; rw [← Array.length_toList, hz]; rfl) h0
      | cons c l =>
        rw [hz] at hs
        obtain ⟨h1, h2, h3, h4⟩ := safe_bare (hs c (List.mem_cons_self ..))
        rw [List.cons_append, lx, if_neg (by simp [h1]), if_neg h2, if_neg h3, if_neg h4, lx_wd_bare l _ fun b hb => safe_bare (hs b (List.mem_cons_of_mem _ hb))]
        congr 1
        rw [← str_eta z, hz]
        show (⟨#[c] ++ l.toArray⟩ : Str) = _
        congr 1
        apply Array.ext'
        simp
    · rw [if_neg hb]
      refine ⟨true, fun _ => rfl, ?_⟩
      rw [List.cons_append, List.append_assoc, lx, if_neg (by decide), if_neg (by decide), if_pos rfl]
      show lx .sq (Str.ofString "") false (sbst 39 apq z.cps.toList ++ 39 :: rest) = _
      rw [lx_sq_word, nil_app, str_eta]
theorem joinT_eq (l : List Str) : joinT l = Str.join (Str.ofString " ") (l.map quoteT) := StrLaws.glued_eq_join _ _
theorem join_cons (z : Str) (l : List Str) (h : l ≠ []) : (joinT (z :: l)).cps.toList = (quoteT z).cps.toList ++ 32 :: (joinT l).cps.toList := by
  cases l with
  | nil => exact absurd rfl h
  | cons y r =>
    rw [joinT_eq, joinT_eq]
    show (((quoteT z).cps ++ (Str.ofString " ").cps) ++ (Str.join (Str.ofString " ") ((y :: r).map quoteT)).cps).toList = _
    rw [Array.toList_append, Array.toList_append, List.append_assoc]
    rfl
/-- split of a joined line -/
theorem lexes_join : ∀ ss : List Str, Lexes .sp (joinT ss).cps.toList ss
  | [] => .stop (tok := Str.ofString "") (q := false) (st' := .nn) (r' := []) rfl ⟨rfl, rfl⟩
  | [z] => by
    have ez : (joinT [z]).cps.toList = (quoteT z).cps.toList := by rw [joinT_eq]; rfl
    rw [ez]
    obtain ⟨q, hq, e⟩ := lx_word z []
    rw [List.append_nil] at e
    refine .item (tok := z) (q := q) (st' := .nn) (r' := []) e ?_ (.inr rfl) (.stop (tok := Str.ofString "") (q := false) (st' := .nn) (r' := []) rfl ⟨rfl, rfl⟩)
    rintro ⟨h1, h2⟩
    rw [hq h1] at h2; cases h2
  | z :: y :: r => by
    obtain ⟨q, hq, e⟩ := lx_word z (32 :: (joinT (y :: r)).cps.toList)
    rw [join_cons z (y :: r) (by simp)]
    have hn : ¬ (z.length = 0 ∧ q = false) := by
      rintro ⟨h1, h2⟩
      rw [hq h1] at h2; cases h2
    refine .item (tok := z) (q := q) (st' := .sp) (r' := (joinT (y :: r)).cps.toList) ?_ hn (.inl rfl) (lexes_join (y :: r))
    rw [e, lx, if_pos (by decide), if_neg hn]
end Mine

end
section
open PySem PySem.W PyProof.Rows PySem.Spec PySem.Builtin PySem.Builtin.Str
set_option Elab.async false
set_option maxRecDepth 100000
namespace Mine
/-- the marks of a header's reader: within marks a comma, outside a backslash -/
def scan : Bool → List Nat → Option Bool
  | b, [] => some b
  | b, c :: r => if c = 34 then scan (!b) r else if c = 44 then (if b then scan b r else none) else if c = 92 then (if b then none else scan b r) else scan b r
theorem scan_cons {b b' : Bool} {c : Nat} {l : List Nat} (h : scan b (c :: l) = some b') : ∃ b₁, scan b [c] = some b₁ ∧ scan b₁ l = some b' := by
  unfold scan at h
  by_cases h1 : c = 34
  · rw [if_pos h1] at h; exact ⟨!b, by unfold scan scan; rw [if_pos h1], h⟩
  · rw [if_neg h1] at h
    by_cases h2 : c = 44
    · rw [if_pos h2] at h
      cases b with
      | false => cases h
      | true => exact ⟨true, by unfold scan scan; simp [h1, h2], h⟩
    · rw [if_neg h2] at h
      by_cases h3 : c = 92
      · rw [if_pos h3] at h
        cases b with
        | true => cases h
        | false => exact ⟨false, by unfold scan scan; simp [h1, h2, h3], h⟩
      · rw [if_neg h3] at h
        exact ⟨b, by unfold scan scan; simp [h1, h2, h3], h⟩
theorem scan_step {b b₁ : Bool} {c : Nat} {l : List Nat} (h : scan b [c] = some b₁) : scan b (c :: l) = scan b₁ l := by
  unfold scan scan at h
  rw [scan]
  cases b <;> by_cases h1 : c = 34 <;> by_cases h2 : c = 44 <;> by_cases h3 : c = 92 <;> simp_all
theorem scan_app : ∀ (l r : List Nat) (b b' : Bool), scan b l = some b' → scan b (l ++ r) = scan b' r
  | [], r, b, b', h => by
    have : b = b' := Option.some.inj h
    rw [this]; rfl
  | c :: l, r, b, b', h => by
    obtain ⟨b₁, h1, h2⟩ := scan_cons h
    rw [List.cons_append, scan_step h1]
    exact scan_app l r _ _ h2
theorem scan_apq (b : Bool) (r : List Nat) : scan b (apq ++ r) = scan b r := by
  cases b <;> rfl
theorem scan_sbst : ∀ (l : List Nat) (b b' : Bool), scan b l = some b' → scan b (sbst 39 apq l) = some b'
  | [], b, b', h => h
  | c :: l, b, b', h => by
    by_cases hc : c = 39
    · subst hc
      rw [show sbst 39 apq (39 :: l) = apq ++ sbst 39 apq l from rfl, scan_apq]
      exact scan_sbst l b b' h
    · have e : sbst 39 apq (c :: l) = c :: sbst 39 apq l := by
        unfold sbst; rw [List.flatMap_cons, if_neg hc]; rfl
      rw [e]
      unfold scan at h ⊢
      split
      · rw [if_pos (by assumption)] at h; exact scan_sbst l _ _ h
      · rw [if_neg (by assumption)] at h
        split
        · rw [if_pos (by assumption)] at h
          split
          · rw [if_pos (by assumption)] at h; exact scan_sbst l _ _ h
          · rw [if_neg (by assumption)] at h; cases h
        · rw [if_neg (by assumption)] at h
          split
          · rw [if_pos (by assumption)] at h
            split
            · rw [if_pos (by assumption)] at h; cases h
            · rw [if_neg (by assumption)] at h; exact scan_sbst l _ _ h
          · rw [if_neg (by assumption)] at h; exact scan_sbst l _ _ h
theorem scan_quote {z : Str} {b b' : Bool} (h : scan b z.cps.toList = some b') : scan b (quoteT z).cps.toList = some b' := by
  rw [quoteT_list]
  split
  · next h0 =>
    have : z = Str.ofString "" := by
      obtain ⟨⟨l⟩⟩ := z
      have : l = [] := List.length_eq_zero_iff.mp h0
      subst this; rfl
    subst this
    exact h
  · split
    · exact h
    · show scan b (sbst 39 apq z.cps.toList ++ [39]) = _
      rw [scan_app _ _ _ _ (scan_sbst _ _ _ h)]
      rfl
/-- a command's words, from b to b' -/
def scanW : Bool → List Str → Option Bool
  | b, [] => some b
  | b, z :: r => (scan b z.cps.toList).bind fun b' => scanW b' r
theorem scan_join : ∀ (ss : List Str) (b b' : Bool), scanW b ss = some b' → scan b (joinT ss).cps.toList = some b'
  | [], b, b', h => h
  | [z], b, b', h => by
    have ez : (joinT [z]).cps.toList = (quoteT z).cps.toList := by rw [joinT_eq]; rfl
    obtain ⟨b₁, h1, h2⟩ := Option.bind_eq_some_iff.mp h
    have : b₁ = b' := Option.some.inj h2
    subst this
    rw [ez]
    exact scan_quote h1
  | z :: y :: r, b, b', h => by
    obtain ⟨b₁, h1, h2⟩ := Option.bind_eq_some_iff.mp h
    rw [join_cons z (y :: r) (by simp), scan_app _ _ _ _ (scan_quote h1)]
    show scan b₁ (joinT (y :: r)).cps.toList = _
    exact scan_join (y :: r) b₁ b' h2
theorem hs_one (res : List Str) (p : Str) (b b' : Bool) (c : Nat) (h : scan b [c] = some b') : hstep ⟨res, p, false, b⟩ c = ⟨res, p ++ ⟨#[c]⟩, false, b'⟩ := by
  unfold scan scan at h
  unfold hstep
  cases b <;> by_cases h1 : c = 34 <;> by_cases h2 : c = 44 <;> by_cases h3 : c = 92 <;> simp_all
theorem hs_run (res : List Str) : ∀ (l : List Nat) (p : Str) (b b' : Bool), scan b l = some b' → l.foldl hstep ⟨res, p, false, b⟩ = ⟨res, p ++ ⟨l.toArray⟩, false, b'⟩
  | [], p, b, b', h => by
    have : b = b' := Option.some.inj h
    subst this
    rw [str_app_nil]; rfl
  | c :: l, p, b, b', h => by
    obtain ⟨b₁, h1, h2⟩ := scan_cons h
    rw [List.foldl_cons, hs_one res p b b₁ c h1, hs_run res l _ _ _ h2, str_app_list p c l]
/-- lines glued with a comma and g between -/
theorem hs_lines (g : Str) (hg : scan false g.cps.toList = some false) : ∀ (ls : List Str) (res : List Str) (p l : Str), (∀ x ∈ l :: ls, scan false x.cps.toList = some false) →
    (Str.join (Str.ofString "," ++ g) (l :: ls)).cps.toList.foldl hstep ⟨res, p, false, false⟩ = ⟨res ++ ((p ++ l) :: ls.map (g ++ ·)).dropLast, ((p ++ l) :: ls.map (g ++ ·)).getLast (by simp), false, false⟩
  | [], res, p, l, h => by
    show l.cps.toList.foldl hstep _ = _
    rw [hs_run res _ _ _ _ (h l (List.mem_cons_self ..)), str_eta]
    simp
  | m :: ls, res, p, l, h => by
    have e : (Str.join (Str.ofString "," ++ g) (l :: m :: ls)).cps.toList = l.cps.toList ++ 44 :: (g.cps.toList ++ (Str.join (Str.ofString "," ++ g) (m :: ls)).cps.toList) := by
      show ((l.cps ++ ((Str.ofString ",").cps ++ g.cps)) ++ (Str.join (Str.ofString "," ++ g) (m :: ls)).cps).toList = _
      rw [Array.toList_append, Array.toList_append, Array.toList_append, List.append_assoc, List.append_assoc]
      rfl
    have ih := hs_lines g hg ls (res ++ [p ++ l]) g m fun x hx => h x (List.mem_cons_of_mem _ hx)
    rw [e, List.foldl_append, hs_run res _ _ _ _ (h l (List.mem_cons_self ..)), str_eta, List.foldl_cons]
    show (g.cps.toList ++ _).foldl hstep ⟨res ++ [p ++ l], Str.ofString "", false, false⟩ = _
    rw [List.foldl_append, hs_run _ _ _ _ _ hg, nil_app, str_eta, ih]
    simp
end Mine

end
section
open PySem PySem.W PyProof.Rows PySem.Spec PySem.Builtin PySem.Builtin.Str
set_option Elab.async false
set_option maxRecDepth 100000
namespace Mine
abbrev sp : Nat → Bool := Unicode.isSpace
def trim (l : List Nat) : List Nat := ((l.dropWhile sp).reverse.dropWhile sp).reverse
theorem drop_take {p : Nat → Bool} : ∀ l : List Nat, l.drop (l.takeWhile p).length = l.dropWhile p
  | [] => rfl
  | c :: l => by
    rw [List.takeWhile_cons, List.dropWhile_cons]
    split
    · rw [List.length_cons, List.drop_succ_cons]; exact drop_take l
    · rfl
theorem strip_list (x : Str) : (Txt.strip x).cps.toList = trim x.cps.toList := by
  show (Txt.stripBy sp true true x).cps.toList = _
  rw [PyProof.Rows.stripBy_eq]
  unfold strSub stripHi stripLo trim
  simp only [if_true]
  rw [drop_take]
  have hn : x.length = x.cps.toList.length := by show x.cps.size = _; simp
  generalize hl : x.cps.toList = l at hn ⊢
  have e1 := drop_take (p := sp) l
  generalize hd : l.dropWhile sp = d at e1 ⊢
  have e2 := drop_take (p := sp) d.reverse
  rw [← e2, List.reverse_drop, List.reverse_reverse, List.length_reverse]
  show (x.cps.extract _ _).toList = _
  rw [Array.toList_extract, hl]
  show List.take _ (List.drop _ _) = _
  rw [e1]
  congr 1
  have : d.length = l.length - (l.takeWhile sp).length := by rw [← e1, List.length_drop]
  omega
/-- no blank at either end -/
def tidy (l : List Nat) : Prop := (∀ c, l.head? = some c → sp c = false) ∧ (∀ c, l.getLast? = some c → sp c = false)
theorem drop_tidy {l : List Nat} (h : ∀ c, l.head? = some c → sp c = false) : l.dropWhile sp = l := by
  cases l with
  | nil => rfl
  | cons c r => rw [List.dropWhile_cons, if_neg (by rw [h c rfl]; simp)]
theorem trim_tidy {l : List Nat} (h : tidy l) : trim l = l := by
  unfold trim
  rw [drop_tidy h.1, drop_tidy, List.reverse_reverse]
  intro c hc
  rw [List.head?_reverse] at hc
  exact h.2 c hc
theorem strip_tidy {x : Str} (h : tidy x.cps.toList) : Txt.strip x = x := by
  have := strip_list x
  rw [trim_tidy h] at this
  have e : (Txt.strip x).cps = x.cps := by apply Array.ext'; exact this
  obtain ⟨a⟩ := x
  show (⟨(Txt.strip ⟨a⟩).cps⟩ : Str) = _
  rw [e]
theorem strip_blank {x : Str} (h : tidy x.cps.toList) : Txt.strip (Str.ofString " " ++ x) = x := by
  have := strip_list (Str.ofString " " ++ x)
  have e0 : (Str.ofString " " ++ x).cps.toList = 32 :: x.cps.toList := by
    show ((Str.ofString " ").cps ++ x.cps).toList = _
    rw [Array.toList_append]; rfl
  have e1 : trim (32 :: x.cps.toList) = trim x.cps.toList := by
    unfold trim
    rw [List.dropWhile_cons, if_pos (by decide +kernel)]
  rw [e0, e1, trim_tidy h] at this
  have e : (Txt.strip (Str.ofString " " ++ x)).cps = x.cps := by apply Array.ext'; exact this
  generalize Txt.strip (Str.ofString " " ++ x) = z at e
  obtain ⟨a⟩ := x
  obtain ⟨b⟩ := z
  dsimp only at e
  rw [e]
theorem safe_tidy {c : Nat} (h : safeC c = true) : sp c = false := by
  by_cases hc : c < 128
  · have key : ∀ d, d < 128 → safeC d = true → sp d = false := by decide +kernel
    exact key c hc h
  · exfalso
    unfold safeC at h
    by_cases h2 : c < 256
    · have key : ∀ d, d < 256 → 128 ≤ d → ¬ safeC d = true := by decide +kernel
      exact key c h2 (by omega) (by unfold safeC; exact h)
    · have : Sre.isWord c = true := by simpa [h2] using h
      revert this
      unfold Sre.isWord Sre.isDigit
      simp only [Bool.or_eq_true, Bool.and_eq_true, decide_eq_true_eq, beq_iff_eq]
      omega
theorem quote_ne (z : Str) : (quoteT z).cps.toList ≠ [] := by
  rw [quoteT_list]
  split
  · simp
  · split
    · next h _ =>
      intro e
      exact h (by show z.cps.size = 0; rw [← Array.length_toList, e]; rfl)
    · simp
theorem quote_tidy (z : Str) : tidy (quoteT z).cps.toList := by
  rw [quoteT_list]
  split
  · exact ⟨fun c h => by cases h; decide +kernel, fun c h => by cases h; decide +kernel⟩
  · split
    · next hb =>
      have hs := hasBad_no hb
      exact ⟨fun c h => safe_tidy (hs c (List.mem_of_head? h)), fun c h => safe_tidy (hs c (List.mem_of_getLast? h))⟩
    · refine ⟨fun c h => by cases h; decide +kernel, fun c h => ?_⟩
      rw [← List.cons_append, List.getLast?_concat] at h
      cases h; decide +kernel
theorem join_ne : ∀ {ss : List Str}, ss ≠ [] → (joinT ss).cps.toList ≠ []
  | [], h => absurd rfl h
  | [z], _ => by rw [show (joinT [z]).cps.toList = (quoteT z).cps.toList by rw [joinT_eq]; rfl]; exact quote_ne z
  | z :: y :: r, _ => by rw [join_cons z (y :: r) (by simp)]; simp
theorem join_tidy : ∀ ss : List Str, tidy (joinT ss).cps.toList
  | [] => ⟨fun c h => (nomatch h), fun c h => (nomatch h)⟩
  | [z] => by rw [show (joinT [z]).cps.toList = (quoteT z).cps.toList by rw [joinT_eq]; rfl]; exact quote_tidy z
  | z :: y :: r => by
    have ih := join_tidy (y :: r)
    have hn := join_ne (ss := y :: r) (by simp)
    have hq := quote_tidy z
    rw [join_cons z (y :: r) (by simp)]
    refine ⟨fun c h => hq.1 c ?_, fun c h => ih.2 c ?_⟩
    · cases e : (quoteT z).cps.toList with
      | nil => exact absurd e (quote_ne z)
      | cons a l => rw [e] at h; exact h
    · cases e : (joinT (y :: r)).cps.toList with
      | nil => exact absurd e hn
      | cons a l =>
        rw [e, List.getLast?_append] at h
        simpa using h
end Mine

end
section
open PySem PySem.W
set_option Elab.async false
set_option maxRecDepth 100000
namespace Mine
theorem len_nil {x : Str} : x.length = 0 ↔ x.cps.toList = [] := by
  show x.cps.size = 0 ↔ _
  rw [← Array.length_toList, List.length_eq_zero_iff]
theorem hrun_lines (g : Str) (hg : scan false g.cps.toList = some false) (l : Str) (ls : List Str) (h : ∀ x ∈ l :: ls, scan false x.cps.toList = some false) :
    hrun (Txt.join (Str.ofString "," ++ g) (l :: ls)).cps.toList = ⟨(l :: ls.map (g ++ ·)).dropLast, (l :: ls.map (g ++ ·)).getLast (by simp), false, false⟩ := by
  have e : Txt.join (Str.ofString "," ++ g) (l :: ls) = Str.join (Str.ofString "," ++ g) (l :: ls) := StrLaws.glued_eq_join _ _
  unfold hrun
  rw [e, hs_lines g hg ls [] (Str.ofString "") l h]
  simp only [nil_app, List.nil_append]
theorem strips {g : Str} (hg : g = Str.ofString "" ∨ g = Str.ofString " ") {x : Str} (h : tidy x.cps.toList) : Txt.strip (g ++ x) = x := by
  rcases hg with rfl | rfl
  · rw [nil_app]; exact strip_tidy h
  · exact strip_blank h
theorem map_strips {g : Str} (hg : g = Str.ofString "" ∨ g = Str.ofString " ") : ∀ ls : List Str, (∀ x ∈ ls, tidy x.cps.toList) → (ls.map (g ++ ·)).map Txt.strip = ls
  | [], _ => rfl
  | x :: r, h => by
    rw [List.map_cons, List.map_cons, strips hg (h x (List.mem_cons_self ..)), map_strips hg r fun y hy => h y (List.mem_cons_of_mem _ hy)]
theorem items_strip {g : Str} (hg : g = Str.ofString "" ∨ g = Str.ofString " ") (l : Str) (ls : List Str) (h : ∀ x ∈ l :: ls, tidy x.cps.toList) : (l :: ls.map (g ++ ·)).map Txt.strip = l :: ls := by
  rw [List.map_cons, strip_tidy (h l (List.mem_cons_self ..)), map_strips hg ls fun y hy => h y (List.mem_cons_of_mem _ hy)]
/-- what the reader tells of lines glued -/
theorem parse_lines {g : Str} (hg : g = Str.ofString "" ∨ g = Str.ofString " ") (l : Str) (ls : List Str) (hs : ∀ x ∈ l :: ls, scan false x.cps.toList = some false) (ht : ∀ x ∈ l :: ls, tidy x.cps.toList) :
    parseT (Txt.join (Str.ofString "," ++ g) (l :: ls)) = if ((l :: ls.map (g ++ ·)).getLast (by simp)).length = 0 then (l :: ls).dropLast else l :: ls := by
  have hsg : scan false g.cps.toList = some false := by rcases hg with rfl | rfl <;> rfl
  unfold parseT
  rw [hrun_lines g hsg l ls hs]
  dsimp only
  split
  · rw [List.map_dropLast, items_strip hg l ls ht]
  · rw [List.dropLast_concat_getLast, items_strip hg l ls ht]
theorem join_len {ss : List Str} : (joinT ss).length = 0 ↔ ss = [] := by
  constructor
  · intro h
    cases ss with
    | nil => rfl
    | cons z r => exact absurd (len_nil.mp h) (join_ne (by simp))
  · rintro rfl; rfl
/-- the reader and the lines of commands -/
theorem parse_cmds {g : Str} (hg : g = Str.ofString "" ∨ g = Str.ofString " ") (cs : List (List Str)) (hne : cs ≠ []) (hs : ∀ c ∈ cs, scanW false c = some false) (h1 : g = Str.ofString " " → cs ≠ [[]]) :
    parseT (Txt.join (Str.ofString "," ++ g) (cs.map joinT)) = (if g = Str.ofString "" ∧ cs.getLast hne = [] then cs.dropLast else cs).map joinT := by
  cases cs with
  | nil => exact absurd rfl hne
  | cons c r =>
    rw [List.map_cons, parse_lines hg]
    · have e : ((joinT c :: (r.map joinT).map (g ++ ·)).getLast (by simp)).length = 0 ↔ (g = Str.ofString "" ∧ (c :: r).getLast hne = []) := by
        cases hr : r.getLast? with
        | none =>
          have : r = [] := List.getLast?_eq_none_iff.mp hr
          subst this
          show (joinT c).length = 0 ↔ _
          rw [join_len]
          constructor
          · rintro rfl
            refine ⟨?_, rfl⟩
            rcases hg with h | h
            · exact h
            · exact absurd rfl (h1 h)
          · rintro ⟨-, h⟩; exact h
        | some z =>
          have hr' : r ≠ [] := by rintro rfl; cases hr
          have ez : r.getLast hr' = z := by rw [List.getLast?_eq_some_getLast hr'] at hr; exact Option.some.inj hr
          have e1 : (joinT c :: (r.map joinT).map (g ++ ·)).getLast (by simp) = g ++ joinT z := by
            rw [List.getLast_cons (by simpa using hr'), List.getLast_map, List.getLast_map, ez]
          rw [e1, List.getLast_cons hr', ez]
          rcases hg with rfl | rfl
          · rw [nil_app, join_len]; simp
          · constructor
            · intro h
              have := len_nil.mp h
              rw [show (Str.ofString " " ++ joinT z).cps.toList = 32 :: (joinT z).cps.toList by show ((Str.ofString " ").cps ++ (joinT z).cps).toList = _; rw [Array.toList_append]; rfl] at this
              cases this
            · rintro ⟨h, -⟩
              exact absurd h (by decide)
      by_cases h : (g = Str.ofString "" ∧ (c :: r).getLast hne = [])
      · rw [if_pos h, if_pos (e.mpr h), List.map_dropLast, List.map_cons]
      · rw [if_neg h, if_neg fun z => h (e.mp z), List.map_cons]
    · intro x hx
      rw [← List.map_cons] at hx
      obtain ⟨c', hc, rfl⟩ := List.mem_map.mp hx
      exact scan_join _ _ _ (hs c' hc)
    · intro x hx
      rw [← List.map_cons] at hx
      obtain ⟨c', hc, rfl⟩ := List.mem_map.mp hx
      exact join_tidy _
end Mine

end
section
open PySem PySem.W
set_option Elab.async false
set_option maxRecDepth 100000
namespace Mine
/-- each accent as a shell's spelling of an apostrophe -/
def phi (x : Str) : Str := ⟨(sbst 180 apq x.cps.toList).toArray⟩
theorem sbst_cons (c : Nat) (z : List Nat) (k : Nat) (l : List Nat) : sbst c z (k :: l) = (if k = c then z else [k]) ++ sbst c z l := by
  unfold sbst; rw [List.flatMap_cons]
theorem sbst_nil (c : Nat) (z : List Nat) : sbst c z [] = [] := rfl
theorem phi_app (x : Str) (l : List Nat) : phi (x ++ ⟨l.toArray⟩) = phi x ++ ⟨(sbst 180 apq l).toArray⟩ := by
  show (⟨(sbst 180 apq (x.cps ++ l.toArray).toList).toArray⟩ : Str) = ⟨(sbst 180 apq x.cps.toList).toArray ++ (sbst 180 apq l).toArray⟩
  congr 1
  rw [Array.toList_append, sbst_append]
  simp
def theta (q : HS) : HS := ⟨q.res.map phi, phi q.part, q.esc, q.quo⟩
theorem phi_nil : phi (Str.ofString "") = Str.ofString "" := rfl
theorem step_plain (q : HS) (c : Nat) (h : c ≠ 180) : hstep (theta q) c = theta (hstep q c) := by
  have e : phi (q.part ++ ⟨#[c]⟩) = phi q.part ++ ⟨#[c]⟩ := by
    have := phi_app q.part [c]
    rw [sbst_cons, if_neg h] at this
    exact this
  obtain ⟨res, part, esc, quo⟩ := q
  unfold hstep theta at *
  dsimp only at *
  cases esc <;> cases quo <;> by_cases h1 : c = 92 <;> by_cases h2 : c = 34 <;> by_cases h3 : c = 44 <;> simp_all [phi_nil]
theorem step_acc (q : HS) : apq.foldl hstep (theta q) = theta (hstep q 180) := by
  have e : phi (q.part ++ ⟨#[180]⟩) = phi q.part ++ ⟨apq.toArray⟩ := by
    have := phi_app q.part [180]
    rw [sbst_cons, if_pos rfl] at this
    exact this
  have a : ∀ p : Str, p ++ ⟨#[39]⟩ ++ ⟨#[34]⟩ ++ ⟨#[39]⟩ ++ ⟨#[34]⟩ ++ ⟨#[39]⟩ = p ++ ⟨apq.toArray⟩ := fun p => by
    show (⟨((((p.cps ++ #[39]) ++ #[34]) ++ #[39]) ++ #[34]) ++ #[39]⟩ : Str) = ⟨p.cps ++ apq.toArray⟩
    congr 1
  obtain ⟨res, part, esc, quo⟩ := q
  cases esc <;> cases quo
  · show (⟨_, _, _, _⟩ : HS) = ⟨_, phi (part ++ ⟨#[180]⟩), _, _⟩
    rw [e, ← a]; rfl
  · show (⟨_, _, _, _⟩ : HS) = ⟨_, phi (part ++ ⟨#[180]⟩), _, _⟩
    rw [e, ← a]; rfl
  · show (⟨_, _, _, _⟩ : HS) = ⟨_, phi (part ++ ⟨#[180]⟩), _, _⟩
    rw [e, ← a]; rfl
  · show (⟨_, _, _, _⟩ : HS) = ⟨_, phi (part ++ ⟨#[180]⟩), _, _⟩
    rw [e, ← a]; rfl
theorem run_theta : ∀ (l : List Nat) (q : HS), (sbst 180 apq l).foldl hstep (theta q) = theta (l.foldl hstep q)
  | [], q => rfl
  | c :: l, q => by
    rw [sbst_cons, List.foldl_append, List.foldl_cons]
    by_cases h : c = 180
    · subst h
      rw [if_pos rfl, step_acc, run_theta l]
    · rw [if_neg h]
      show (sbst 180 apq l).foldl hstep (hstep (theta q) c) = _
      rw [step_plain q c h, run_theta l]
theorem sbst_rev : ∀ l : List Nat, sbst 180 apq l.reverse = (sbst 180 apq l).reverse
  | [] => rfl
  | c :: l => by
    rw [List.reverse_cons, sbst_append, sbst_rev l, sbst_cons 180 apq c l, List.reverse_append]
    congr 1
    rw [sbst_cons, sbst_nil, List.append_nil]
    by_cases h : c = 180
    · rw [if_pos h]; rfl
    · rw [if_neg h]; rfl
theorem sbst_drop : ∀ l : List Nat, (sbst 180 apq l).dropWhile sp = sbst 180 apq (l.dropWhile sp)
  | [] => rfl
  | c :: l => by
    rw [List.dropWhile_cons]
    by_cases h : c = 180
    · subst h
      rw [if_neg (by decide +kernel), sbst_cons, if_pos rfl]
      show (39 :: _).dropWhile sp = _
      rw [List.dropWhile_cons, if_neg (by decide +kernel)]
      rfl
    · rw [sbst_cons, if_neg h]
      show (c :: sbst 180 apq l).dropWhile sp = _
      rw [List.dropWhile_cons]
      split
      · exact sbst_drop l
      · rw [sbst_cons, if_neg h]; rfl
theorem sbst_trim (l : List Nat) : trim (sbst 180 apq l) = sbst 180 apq (trim l) := by
  unfold trim
  rw [sbst_drop, ← sbst_rev, sbst_drop, ← sbst_rev]
theorem strip_phi (x : Str) : Txt.strip (phi x) = phi (Txt.strip x) := by
  have e : (Txt.strip (phi x)).cps.toList = (phi (Txt.strip x)).cps.toList := by
    rw [strip_list]
    show trim (sbst 180 apq x.cps.toList) = sbst 180 apq (Txt.strip x).cps.toList
    rw [sbst_trim, strip_list]
  have e2 : (Txt.strip (phi x)).cps = (phi (Txt.strip x)).cps := by apply Array.ext'; exact e
  generalize Txt.strip (phi x) = a at e2
  generalize phi (Txt.strip x) = b at e2
  obtain ⟨a⟩ := a
  obtain ⟨b⟩ := b
  dsimp only at e2
  rw [e2]
theorem phi_len {x : Str} : (phi x).length = 0 ↔ x.length = 0 := by
  rw [len_nil, len_nil]
  show sbst 180 apq x.cps.toList = [] ↔ _
  cases x.cps.toList with
  | nil => exact ⟨fun _ => rfl, fun _ => rfl⟩
  | cons c l =>
    rw [sbst_cons]
    split <;> simp
theorem parse_phi (x : Str) : parseT (phi x) = (parseT x).map phi := by
  have h : hrun (sbst 180 apq x.cps.toList) = theta (hrun x.cps.toList) := run_theta x.cps.toList ⟨[], Str.ofString "", false, false⟩
  unfold parseT
  rw [show (phi x).cps.toList = sbst 180 apq x.cps.toList from rfl, h]
  generalize hrun x.cps.toList = q
  obtain ⟨res, part, esc, quo⟩ := q
  show List.map Txt.strip (if (phi part).length = 0 then res.map phi else res.map phi ++ [phi part]) = _
  have m : ∀ l : List Str, List.map Txt.strip (l.map phi) = (l.map Txt.strip).map phi := fun l => by
    rw [List.map_map, List.map_map]
    exact List.map_congr_left fun y _ => strip_phi y
  by_cases hp : part.length = 0
  · rw [if_pos (phi_len.mpr hp), m]
    show _ = List.map phi (List.map Txt.strip (if part.length = 0 then res else res ++ [part]))
    rw [if_pos hp]
  · rw [if_neg fun z => hp (phi_len.mp z)]
    show _ = List.map phi (List.map Txt.strip (if part.length = 0 then res else res ++ [part]))
    rw [if_neg hp, ← m]
    congr 1
    rw [List.map_append]
    rfl
/-- a word with apostrophes for the accents -/
def apo (x : Str) : Str := ⟨(sbst 180 [39] x.cps.toList).toArray⟩
theorem apo_free : ∀ l : List Nat, 39 ∉ l → sbst 39 apq (sbst 180 [39] l) = sbst 180 apq l
  | [], _ => rfl
  | c :: l, h => by
    have ih := apo_free l fun m => h (List.mem_cons_of_mem _ m)
    have hc : c ≠ 39 := fun e => h (e ▸ List.mem_cons_self ..)
    rw [sbst_cons 180 [39], sbst_append, ih, sbst_cons 180 apq]
    congr 1
    by_cases h2 : c = 180
    · rw [if_pos h2, if_pos h2]; rfl
    · rw [if_neg h2, if_neg h2, sbst_cons, if_neg hc]; rfl
theorem bad_apo (x : Str) : hasBad (apo x).cps = hasBad x.cps := by
  have a : ∀ l : List Nat, ((sbst 180 [39] l).any fun c => !safeC c) = (l.any fun c => !safeC c) := by
    intro l
    induction l with
    | nil => rfl
    | cons c l ih =>
      rw [sbst_cons, List.any_append, ih, List.any_cons]
      congr 1
      by_cases h : c = 180
      · rw [if_pos h, h]; decide +kernel
      · rw [if_neg h]; simp
  unfold hasBad
  rw [← Array.any_toList, ← Array.any_toList]
  exact a x.cps.toList
theorem apo_len {x : Str} : (apo x).length = 0 ↔ x.length = 0 := by
  rw [len_nil, len_nil]
  show sbst 180 [39] x.cps.toList = [] ↔ _
  cases x.cps.toList with
  | nil => exact ⟨fun _ => rfl, fun _ => rfl⟩
  | cons c l =>
    rw [sbst_cons]
    split <;> simp
theorem quote_apo (x : Str) (h : 39 ∉ x.cps.toList) : (quoteT (apo x)).cps.toList = sbst 180 apq (quoteT x).cps.toList := by
  rw [quoteT_list, quoteT_list, bad_apo]
  by_cases h0 : x.length = 0
  · rw [if_pos h0, if_pos (apo_len.mpr h0)]; rfl
  · rw [if_neg h0, if_neg fun z => h0 (apo_len.mp z)]
    by_cases hb : hasBad x.cps = false
    · rw [if_pos hb, if_pos hb]
      have hs := hasBad_no hb
      have hn : 180 ∉ x.cps.toList := fun m => absurd (hs 180 m) (by decide +kernel)
      show sbst 180 [39] x.cps.toList = _
      rw [sbst_free _ _ _ hn, sbst_free _ _ _ hn]
    · rw [if_neg hb, if_neg hb]
      show 39 :: (sbst 39 apq (sbst 180 [39] x.cps.toList) ++ [39]) = _
      rw [apo_free _ h, sbst_cons, if_neg (by decide), sbst_append, sbst_free 39 apq _ h]
      rfl
theorem join_apo : ∀ ws : List Str, (∀ x ∈ ws, 39 ∉ x.cps.toList) → (joinT (ws.map apo)).cps.toList = sbst 180 apq (joinT ws).cps.toList
  | [], _ => rfl
  | [z], h => by
    rw [show (joinT [z]).cps.toList = (quoteT z).cps.toList by rw [joinT_eq]; rfl, show (joinT ([z].map apo)).cps.toList = (quoteT (apo z)).cps.toList by rw [joinT_eq]; rfl]
    exact quote_apo z (h z (List.mem_cons_self ..))
  | z :: y :: r, h => by
    rw [join_cons z (y :: r) (by simp), List.map_cons, join_cons (apo z) _ (by simp), quote_apo z (h z (List.mem_cons_self ..)), join_apo (y :: r) fun x hx => h x (List.mem_cons_of_mem _ hx), sbst_append, sbst_cons 180 apq 32, if_neg (by decide)]
    rfl
/-- the accents' law -/
theorem parse_apo (ws : List Str) (h : ∀ x ∈ ws, 39 ∉ x.cps.toList) : parseT (joinT (ws.map apo)) = (parseT (joinT ws)).map phi := by
  rw [← parse_phi]
  congr 1
  have e := join_apo ws h
  have e2 : (joinT (ws.map apo)).cps = (phi (joinT ws)).cps := by apply Array.ext'; exact e
  generalize joinT (ws.map apo) = a at e2
  generalize phi (joinT ws) = b at e2
  obtain ⟨a⟩ := a
  obtain ⟨b⟩ := b
  dsimp only at e2
  rw [e2]
theorem phi_replace (x : Str) : Txt.replace x ⟨#[180]⟩ (Str.ofString "'\"'\"'") = phi x := by
  have e := replace_sbst x (Str.ofString "'\"'\"'") 180
  have e2 : (Txt.replace x ⟨#[180]⟩ (Str.ofString "'\"'\"'")).cps = (phi x).cps := by
    apply Array.ext'; rw [e, apq_is]; rfl
  generalize Txt.replace x ⟨#[180]⟩ (Str.ofString "'\"'\"'") = a at e2
  generalize phi x = b at e2
  obtain ⟨a⟩ := a
  obtain ⟨b⟩ := b
  dsimp only at e2
  rw [e2]
end Mine

end
section
open PySem PySem.W
set_option Elab.async false
set_option maxRecDepth 100000
namespace Mine
/-- the signs of a row of words -/
def flat (ws : List Str) : List Nat := ws.flatMap fun z => z.cps.toList
theorem scanW_flat : ∀ (ws : List Str) (b b' : Bool), scanW b ws = some b' ↔ scan b (flat ws) = some b'
  | [], b, b' => Iff.rfl
  | z :: r, b, b' => by
    show (scan b z.cps.toList).bind (fun b' => scanW b' r) = some b' ↔ scan b (z.cps.toList ++ flat r) = some b'
    cases h : scan b z.cps.toList with
    | some b₁ =>
      rw [scan_app _ _ _ _ h]
      exact scanW_flat r b₁ b'
    | none =>
      have n : ∀ (l r : List Nat) (b : Bool), scan b l = none → scan b (l ++ r) = none := by
        intro l
        induction l with
        | nil => intro r b h; cases h
        | cons c l ih =>
          intro r b h
          cases hc : scan b [c] with
          | none =>
            rw [List.cons_append]
            unfold scan scan at hc
            rw [scan]
            cases b <;> by_cases h1 : c = 34 <;> by_cases h2 : c = 44 <;> by_cases h3 : c = 92 <;> simp_all
          | some b₁ =>
            rw [scan_step hc] at h
            rw [List.cons_append, scan_step hc]
            exact ih r b₁ h
      rw [n _ _ _ h]
      simp
/-- a sign laid to the last word -/
def addL : List Str → Nat → List Str
  | [], c => [⟨#[c]⟩]
  | [z], c => [z ++ ⟨#[c]⟩]
  | z :: y :: r, c => z :: addL (y :: r) c
theorem flat_addL : ∀ (ws : List Str) (c : Nat), flat (addL ws c) = flat ws ++ [c]
  | [], c => rfl
  | [z], c => by
    show (z ++ (⟨#[c]⟩ : Str)).cps.toList ++ [] = (z.cps.toList ++ []) ++ [c]
    show (z.cps ++ #[c]).toList ++ [] = _
    simp
  | z :: y :: r, c => by
    show z.cps.toList ++ flat (addL (y :: r) c) = (z.cps.toList ++ flat (y :: r)) ++ [c]
    rw [flat_addL (y :: r) c, List.append_assoc]
theorem flat_new (ws : List Str) : flat (ws ++ [Str.ofString ""]) = flat ws := by
  unfold flat
  rw [List.flatMap_append]
  show _ ++ [] = _
  rw [List.append_nil]
theorem addL_len : ∀ (ws : List Str) (c : Nat), (addL ws c).length = max 1 ws.length
  | [], _ => rfl
  | [_], _ => rfl
  | z :: y :: r, c => by
    show (addL (y :: r) c).length + 1 = _
    rw [addL_len (y :: r) c]
    simp only [List.length_cons]
    omega
theorem addL_snoc : ∀ (us : List Str) (z : Str) (c : Nat), addL (us ++ [z]) c = us ++ [z ++ ⟨#[c]⟩]
  | [], _, _ => rfl
  | [u], z, c => rfl
  | u :: v :: r, z, c => by
    show u :: addL ((v :: r) ++ [z]) c = u :: ((v :: r) ++ [_])
    rw [addL_snoc (v :: r) z c]
def kindI (x : Int) : Int := x % 16
/-- the sign that a number lays -/
def signOf (x : Int) (inside : Bool) : Nat :=
  if kindI x < 5 then 39 else if kindI x < 7 then 34 else if kindI x < 9 then (if inside then 44 else 92)
  else if kindI x = 9 then 32 else if kindI x = 10 then 10 else if kindI x = 11 then 35 else if kindI x = 12 then [97, 122, 55].getD (x / 16 % 3).toNat 90
  else if kindI x = 13 then [95, 64, 37, 43, 61, 58, 46, 47, 45].getD (x / 16 % 9).toNat 90
  else if (x / 16 % 55296).toNat = 34 ∨ (x / 16 % 55296).toNat = 92 ∨ (x / 16 % 55296).toNat = 44 then 90 else (x / 16 % 55296).toNat
def insideOf (x : Int) (inside : Bool) : Bool := if 5 ≤ kindI x ∧ kindI x < 7 then !inside else inside
structure CSt where
  old : List (List Str)
  cur : List Str
  ins : Bool
def closeC (q : CSt) : List Str := if q.ins then addL q.cur 34 else q.cur
def cstep (q : CSt) (x : Int) : CSt :=
  if kindI x = 0 then ⟨q.old ++ [closeC q], [], false⟩
  else if kindI x < 3 ∨ kindI x = 15 then ⟨q.old, q.cur ++ [Str.ofString ""], q.ins⟩
  else ⟨q.old, addL (if q.cur = [] then [Str.ofString ""] else q.cur) (signOf x q.ins), insideOf x q.ins⟩
def crun (xs : List Int) : CSt := xs.foldl cstep ⟨[], [], false⟩
def cmdsT (xs : List Int) : List (List Str) := (crun xs).old ++ [closeC (crun xs)]
theorem scan_other {b : Bool} {c : Nat} (h1 : c ≠ 34) (h2 : c ≠ 44) (h3 : c ≠ 92) : scan b [c] = some b := by
  unfold scan scan; simp [h1, h2, h3]
theorem scan_sign (x : Int) (b : Bool) : scan b [signOf x b] = some (insideOf x b) := by
  have hk : 0 ≤ kindI x ∧ kindI x < 16 := ⟨Int.emod_nonneg _ (by decide), Int.emod_lt_of_pos _ (by decide)⟩
  unfold signOf insideOf
  generalize kindI x = k at hk
  by_cases h1 : k < 5
  · rw [if_pos h1, if_neg (by omega)]; exact scan_other (by decide) (by decide) (by decide)
  · rw [if_neg h1]
    by_cases h2 : k < 7
    · rw [if_pos h2, if_pos (by omega)]; cases b <;> rfl
    · have hr : (if 5 ≤ k ∧ k < 7 then !b else b) = b := if_neg (by omega)
      rw [if_neg h2, hr]
      by_cases h3 : k < 9
      · rw [if_pos h3]; cases b <;> rfl
      · rw [if_neg h3]
        by_cases h4 : k = 9
        · rw [if_pos h4]; exact scan_other (by decide) (by decide) (by decide)
        · rw [if_neg h4]
          by_cases h5 : k = 10
          · rw [if_pos h5]; exact scan_other (by decide) (by decide) (by decide)
          · rw [if_neg h5]
            by_cases h6 : k = 11
            · rw [if_pos h6]; exact scan_other (by decide) (by decide) (by decide)
            · rw [if_neg h6]
              by_cases h7 : k = 12
              · rw [if_pos h7]
                generalize (x / 16 % 3).toNat = j
                match j with
                | 0 => exact scan_other (by decide) (by decide) (by decide)
                | 1 => exact scan_other (by decide) (by decide) (by decide)
                | 2 => exact scan_other (by decide) (by decide) (by decide)
                | _ + 3 => exact scan_other (by simp) (by simp) (by simp)
              · rw [if_neg h7]
                by_cases h8 : k = 13
                · rw [if_pos h8]
                  generalize (x / 16 % 9).toNat = j
                  match j with
                  | 0 | 1 | 2 | 3 | 4 | 5 | 6 | 7 | 8 => exact scan_other (by decide) (by decide) (by decide)
                  | _ + 9 => exact scan_other (by simp) (by simp) (by simp)
                · rw [if_neg h8]
                  generalize (x / 16 % 55296).toNat = c
                  by_cases h9 : c = 34 ∨ c = 92 ∨ c = 44
                  · rw [if_pos h9]; exact scan_other (by decide) (by decide) (by decide)
                  · rw [if_neg h9]; exact scan_other (by omega) (by omega) (by omega)
def CInv (q : CSt) : Prop := (∀ c ∈ q.old, scanW false c = some false) ∧ scanW false q.cur = some q.ins
theorem close_scan {q : CSt} (h : CInv q) : scanW false (closeC q) = some false := by
  unfold closeC
  have h2 := h.2
  split
  · next hi =>
    rw [scanW_flat, flat_addL, scan_app _ _ _ _ ((scanW_flat _ _ _).mp h2), hi]; rfl
  · next hi =>
    rw [h2]; simp only [Bool.not_eq_true] at hi; rw [hi]
theorem cinv_step {q : CSt} (h : CInv q) (x : Int) : CInv (cstep q x) := by
  unfold cstep
  split
  · refine ⟨fun c hc => ?_, rfl⟩
    rcases List.mem_append.mp hc with hc | hc
    · exact h.1 c hc
    · rw [List.mem_singleton.mp hc]; exact close_scan h
  · split
    · refine ⟨h.1, ?_⟩
      show scanW false (q.cur ++ [Str.ofString ""]) = some q.ins
      rw [scanW_flat, flat_new]
      exact (scanW_flat _ _ _).mp h.2
    · refine ⟨h.1, ?_⟩
      show scanW false (addL (if q.cur = [] then [Str.ofString ""] else q.cur) (signOf x q.ins)) = some (insideOf x q.ins)
      have e : flat (if q.cur = [] then [Str.ofString ""] else q.cur) = flat q.cur := by
        split
        · next h => rw [h]; rfl
        · rfl
      rw [scanW_flat, flat_addL, e, scan_app _ _ _ _ ((scanW_flat _ _ _).mp h.2)]
      exact scan_sign x q.ins
theorem cinv_run (xs : List Int) : CInv (crun xs) := by
  unfold crun
  suffices h : ∀ (xs : List Int) q, CInv q → CInv (xs.foldl cstep q) from h xs _ ⟨fun _ h => (nomatch h), rfl⟩
  intro xs
  induction xs with
  | nil => intro q h; exact h
  | cons x r ih => intro q h; exact ih _ (cinv_step h x)
theorem cmds_scan (xs : List Int) : ∀ c ∈ cmdsT xs, scanW false c = some false := by
  intro c hc
  rcases List.mem_append.mp hc with hc | hc
  · exact (cinv_run xs).1 c hc
  · rw [List.mem_singleton.mp hc]; exact close_scan (cinv_run xs)
end Mine

end
section
open PySem PySem.W
set_option Elab.async false
set_option maxRecDepth 100000
namespace Mine
/-- how long a row of words may be: its words, and the signs of each -/
def fits (ws : List Str) (n : Nat) : Prop := ws.length ≤ n ∧ (flat ws).length ≤ n
theorem each_le : ∀ (ws : List Str), ∀ z ∈ ws, z.length ≤ (flat ws).length
  | [], z, h => nomatch h
  | y :: r, z, h => by
    show z.length ≤ (y.cps.toList ++ flat r).length
    rw [List.length_append]
    rcases List.mem_cons.mp h with rfl | h
    · show z.cps.size ≤ _
      simp
    · have := each_le r z h
      omega
theorem sbst_len (l : List Nat) : (sbst 39 apq l).length ≤ 5 * l.length := by
  induction l with
  | nil => exact Nat.zero_le _
  | cons c l ih =>
    rw [show sbst 39 apq (c :: l) = (if c = 39 then apq else [c]) ++ sbst 39 apq l from by unfold sbst; rw [List.flatMap_cons], List.length_append, List.length_cons]
    split
    · show 5 + _ ≤ _; omega
    · show 1 + _ ≤ _; omega
theorem quote_len5 (z : Str) : (quoteT z).cps.toList.length ≤ 5 * z.cps.toList.length + 2 := by
  rw [quoteT_list]
  split
  · show 2 ≤ _; omega
  · split
    · omega
    · have := sbst_len z.cps.toList
      rw [List.length_cons, List.length_append]
      show _ + 1 + 1 ≤ _
      omega
theorem join_len5 : ∀ ws : List Str, (joinT ws).cps.toList.length ≤ 5 * (flat ws).length + 3 * ws.length
  | [] => Nat.zero_le _
  | [z] => by
    rw [show (joinT [z]).cps.toList = (quoteT z).cps.toList by rw [joinT_eq]; rfl]
    have := quote_len5 z
    show _ ≤ 5 * (z.cps.toList ++ []).length + 3 * 1
    rw [List.append_nil]
    omega
  | z :: y :: r => by
    have ih := join_len5 (y :: r)
    have := quote_len5 z
    rw [join_cons z (y :: r) (by simp), List.length_append, List.length_cons]
    show _ ≤ 5 * (z.cps.toList ++ flat (y :: r)).length + 3 * ((y :: r).length + 1)
    rw [List.length_append]
    omega
/-- what the commands weigh -/
def wt (cs : List (List Str)) : Nat := (cs.map fun c => (flat c).length + c.length + 1).sum
theorem wt_app (a b : List (List Str)) : wt (a ++ b) = wt a + wt b := by
  unfold wt; rw [List.map_append, List.sum_append]
theorem wt_one (c : List Str) : wt [c] = (flat c).length + c.length + 1 := by
  unfold wt; simp
theorem wt_mem : ∀ {cs : List (List Str)} {c : List Str}, c ∈ cs → (flat c).length + c.length + 1 ≤ wt cs
  | a :: r, c, h => by
    have e : wt (a :: r) = (flat a).length + a.length + 1 + wt r := by unfold wt; rw [List.map_cons, List.sum_cons]
    rcases List.mem_cons.mp h with rfl | h
    · omega
    · have := wt_mem h
      omega
def qwt (q : CSt) : Nat := wt q.old + (flat q.cur).length + q.cur.length
theorem close_wt (q : CSt) : (flat (closeC q)).length + (closeC q).length ≤ (flat q.cur).length + q.cur.length + 2 := by
  unfold closeC
  split
  · rw [flat_addL, addL_len, List.length_append]
    show _ + 1 + _ ≤ _
    omega
  · omega
theorem step_wt (q : CSt) (x : Int) : qwt (cstep q x) ≤ qwt q + 3 := by
  unfold cstep qwt
  split
  · have := close_wt q
    dsimp only
    rw [wt_app, wt_one]
    show _ + _ + 0 + 0 ≤ _
    omega
  · split
    · dsimp only
      rw [flat_new, List.length_append]
      show _ + _ + (_ + 1) ≤ _
      omega
    · dsimp only
      rw [flat_addL, addL_len, List.length_append]
      split
      · next h => rw [h]; show _ + (0 + 1) + max 1 1 ≤ wt q.old + 0 + 0 + 3; omega
      · next h =>
        have : 1 ≤ q.cur.length := by
          cases hq : q.cur with
          | nil => exact absurd hq h
          | cons => simp
        show _ + (_ + 1) + max 1 _ ≤ _
        omega
theorem run_wt (xs : List Int) : qwt (crun xs) ≤ 3 * xs.length := by
  have h : ∀ (xs : List Int) q, qwt (xs.foldl cstep q) ≤ qwt q + 3 * xs.length := by
    intro xs
    induction xs with
    | nil => intro q; exact Nat.le_refl _
    | cons x r ih =>
      intro q
      have a := ih (cstep q x)
      have b := step_wt q x
      rw [List.foldl_cons, List.length_cons]
      omega
  have := h xs ⟨[], [], false⟩
  have e : qwt ⟨[], [], false⟩ = 0 := rfl
  unfold crun
  omega
theorem cmds_wt (xs : List Int) : wt (cmdsT xs) ≤ 3 * xs.length + 3 := by
  have a := run_wt xs
  have b := close_wt (crun xs)
  unfold qwt at a
  unfold cmdsT
  rw [wt_app, wt_one]
  omega
/-- the whole text of lines -/
theorem text_len (sep : Str) (hs : sep.cps.toList.length ≤ 2) : ∀ cs : List (List Str), (Str.join sep (cs.map joinT)).cps.toList.length ≤ 5 * wt cs
  | [] => Nat.zero_le _
  | [c] => by
    have := join_len5 c
    show (joinT c).cps.toList.length ≤ _
    rw [wt_one]
    omega
  | c :: d :: r => by
    have ih := text_len sep hs (d :: r)
    have := join_len5 c
    have e : wt (c :: d :: r) = (flat c).length + c.length + 1 + wt (d :: r) := by unfold wt; rw [List.map_cons, List.sum_cons]
    show (((joinT c).cps ++ sep.cps) ++ (Str.join sep ((d :: r).map joinT)).cps).toList.length ≤ _
    rw [Array.toList_append, Array.toList_append, List.length_append, List.length_append, e]
    omega
end Mine

end
section
open PySem PySem.W
set_option Elab.async false
set_option maxRecDepth 100000
namespace Mine
def tmpl (a : Nat) : List Nat := [a, a, 34, 34, 44, 92, 32, 10, 35, 97, 61, 44, 92]
def wsign (a : Nat) (x : Int) : Nat := (tmpl a).getD (kindI x - 3).toNat 90
def wstep (a : Nat) (ws : List Str) (x : Int) : List Str :=
  if 2 < kindI x then addL (if kindI x < 3 ∨ ws = [] then ws ++ [Str.ofString ""] else ws) (wsign a x) else (if kindI x < 3 ∨ ws = [] then ws ++ [Str.ofString ""] else ws)
def wordsT (a : Nat) (xs : List Int) : List Str := xs.foldl (wstep a) []
theorem apo_app (z : Str) (c d : Nat) (h : sbst 180 [39] [c] = [d]) : apo (z ++ ⟨#[c]⟩) = apo z ++ ⟨#[d]⟩ := by
  show (⟨(sbst 180 [39] (z.cps ++ #[c]).toList).toArray⟩ : Str) = ⟨(sbst 180 [39] z.cps.toList).toArray ++ #[d]⟩
  congr 1
  have e : (z.cps ++ #[c]).toList = z.cps.toList ++ [c] := by simp
  rw [e, sbst_append, h]
  simp
theorem map_addL (c d : Nat) (h : sbst 180 [39] [c] = [d]) : ∀ ws : List Str, (addL ws c).map apo = addL (ws.map apo) d
  | [] => by
    show [apo ⟨#[c]⟩] = [⟨#[d]⟩]
    have : apo ⟨#[c]⟩ = ⟨#[d]⟩ := by
      show (⟨(sbst 180 [39] [c]).toArray⟩ : Str) = _
      rw [h]
    rw [this]
  | [z] => by
    show [apo (z ++ ⟨#[c]⟩)] = [apo z ++ ⟨#[d]⟩]
    rw [apo_app z c d h]
  | z :: y :: r => by
    show apo z :: (addL (y :: r) c).map apo = apo z :: addL ((y :: r).map apo) d
    rw [map_addL c d h (y :: r)]
theorem wsign_apo (x : Int) : sbst 180 [39] [wsign 180 x] = [wsign 39 x] := by
  unfold wsign
  generalize (kindI x - 3).toNat = j
  match j with
  | 0 | 1 | 2 | 3 | 4 | 5 | 6 | 7 | 8 | 9 | 10 | 11 | 12 => rfl
  | _ + 13 => rfl
theorem words_apo (xs : List Int) : wordsT 39 xs = (wordsT 180 xs).map apo := by
  have h : ∀ (xs : List Int) (ws : List Str), xs.foldl (wstep 39) (ws.map apo) = (xs.foldl (wstep 180) ws).map apo := by
    intro xs
    induction xs with
    | nil => intro ws; rfl
    | cons x r ih =>
      intro ws
      rw [List.foldl_cons, List.foldl_cons, ← ih]
      congr 1
      have e : (if kindI x < 3 ∨ ws.map apo = [] then ws.map apo ++ [Str.ofString ""] else ws.map apo) = (if kindI x < 3 ∨ ws = [] then ws ++ [Str.ofString ""] else ws).map apo := by
        by_cases h : kindI x < 3 ∨ ws = []
        · rw [if_pos h, if_pos (by simpa using h), List.map_append]; rfl
        · rw [if_neg h, if_neg (by simpa using h)]
      unfold wstep
      split
      · rw [map_addL _ _ (wsign_apo x), e]
      · exact e
  exact h xs []
theorem wsign_free (x : Int) : wsign 180 x ≠ 39 := by
  unfold wsign
  generalize (kindI x - 3).toNat = j
  match j with
  | 0 | 1 | 2 | 3 | 4 | 5 | 6 | 7 | 8 | 9 | 10 | 11 | 12 => decide
  | _ + 13 => exact (by decide : (90 : Nat) ≠ 39)
theorem mem_flat {ws : List Str} {z : Str} (h : z ∈ ws) {c : Nat} (hc : c ∈ z.cps.toList) : c ∈ flat ws := List.mem_flatMap.mpr ⟨z, h, hc⟩
theorem words_free (xs : List Int) : ∀ z ∈ wordsT 180 xs, 39 ∉ z.cps.toList := by
  have h : ∀ (xs : List Int) (ws : List Str), 39 ∉ flat ws → 39 ∉ flat (xs.foldl (wstep 180) ws) := by
    intro xs
    induction xs with
    | nil => intro ws h; exact h
    | cons x r ih =>
      intro ws h
      rw [List.foldl_cons]
      refine ih _ ?_
      have e : flat (if kindI x < 3 ∨ ws = [] then ws ++ [Str.ofString ""] else ws) = flat ws := by
        split
        · exact flat_new ws
        · rfl
      unfold wstep
      split
      · rw [flat_addL, e]
        intro m
        rcases List.mem_append.mp m with m | m
        · exact h m
        · exact wsign_free x (List.mem_singleton.mp m).symm
      · rw [e]; exact h
  intro z hz hc
  exact h xs [] (by simp [flat]) (mem_flat hz hc)
theorem words_wt (a : Nat) (xs : List Int) : (flat (wordsT a xs)).length + (wordsT a xs).length ≤ 2 * xs.length := by
  have h : ∀ (xs : List Int) (ws : List Str), (flat (xs.foldl (wstep a) ws)).length + (xs.foldl (wstep a) ws).length ≤ (flat ws).length + ws.length + 2 * xs.length := by
    intro xs
    induction xs with
    | nil => intro ws; exact Nat.le_refl _
    | cons x r ih =>
      intro ws
      rw [List.foldl_cons, List.length_cons]
      have i := ih (wstep a ws x)
      have s : (flat (wstep a ws x)).length + (wstep a ws x).length ≤ (flat ws).length + ws.length + 2 := by
        have e : flat (if kindI x < 3 ∨ ws = [] then ws ++ [Str.ofString ""] else ws) = flat ws := by
          split
          · exact flat_new ws
          · rfl
        have l : 1 ≤ (if kindI x < 3 ∨ ws = [] then ws ++ [Str.ofString ""] else ws).length ∧ (if kindI x < 3 ∨ ws = [] then ws ++ [Str.ofString ""] else ws).length ≤ ws.length + 1 := by
          split
          · rw [List.length_append]; exact ⟨Nat.le_add_left _ _, Nat.le_refl _⟩
          · next h =>
            refine ⟨?_, Nat.le_succ _⟩
            cases ws with
            | nil => exact absurd (.inr rfl) h
            | cons => simp
        unfold wstep
        split
        · rw [flat_addL, addL_len, e, List.length_append]
          show _ + 1 + _ ≤ _
          omega
        · rw [e]; omega
      omega
  have := h xs []
  have z : (flat ([] : List Str)).length + ([] : List Str).length = 0 := rfl
  unfold wordsT
  omega
/-- the accents' law, of the law's own words -/
theorem law_words (xs : List Int) : parseT (joinT (wordsT 39 xs)) = (parseT (joinT (wordsT 180 xs))).map fun y => Txt.replace y ⟨#[180]⟩ (Str.ofString "'\"'\"'") := by
  rw [words_apo, parse_apo _ (words_free xs)]
  exact List.map_congr_left fun y _ => (phi_replace y).symm
/-- the commands' law: what is told -/
theorem law_cmds (xs : List Int) {g : Str} (hg : g = Str.ofString "" ∨ g = Str.ofString " ") (h1 : g = Str.ofString " " → xs ≠ []) :
    parseT (Txt.join (Str.ofString "," ++ g) ((cmdsT xs).map joinT)) = (if g = Str.ofString "" ∧ (cmdsT xs).getLast (by unfold cmdsT; simp) = [] then (cmdsT xs).dropLast else cmdsT xs).map joinT := by
  refine parse_cmds hg (cmdsT xs) _ (cmds_scan xs) fun e => ?_
  have hx := h1 e
  cases xs with
  | nil => exact absurd rfl hx
  | cons x r =>
    intro z
    have key : ∀ (r : List Int) (q : CSt), (q.old ≠ [] ∨ q.cur ≠ []) → ((r.foldl cstep q).old ≠ [] ∨ (r.foldl cstep q).cur ≠ []) := by
      intro r
      induction r with
      | nil => intro q h; exact h
      | cons y r ih =>
        intro q h
        refine ih _ ?_
        unfold cstep
        split
        · exact .inl (by simp)
        · split
          · exact .inr (by simp)
          · refine .inr fun e => ?_
            have := congrArg List.length e
            rw [addL_len] at this
            simp at this
    have k : (crun (x :: r)).old ≠ [] ∨ (crun (x :: r)).cur ≠ [] := by
      unfold crun
      rw [List.foldl_cons]
      refine key r _ ?_
      unfold cstep
      split
      · exact .inl (by simp)
      · split
        · exact .inr (by simp)
        · refine .inr fun e => ?_
          have := congrArg List.length e
          rw [addL_len] at this
          simp at this
    unfold cmdsT at z
    have z2 : (crun (x :: r)).old = [] ∧ closeC (crun (x :: r)) = [] := by
      cases ho : (crun (x :: r)).old with
      | nil => rw [ho] at z; exact ⟨rfl, by simpa using z⟩
      | cons a l => rw [ho] at z; simp at z
    rcases k with k | k
    · exact k z2.1
    · have z3 := z2.2
      unfold closeC at z3
      split at z3
      · have := congrArg List.length z3
        rw [addL_len] at this
        simp at this
      · exact k z3
end Mine

end
section
open PySem PySem.W PySem.Calls PyProof.Rows
set_option Elab.async false
set_option maxRecDepth 100000
set_option maxHeartbeats 400000
namespace Mine
theorem setL_last (v z : Value) : ∀ us : List Value, ki_setL (us ++ [z]) us.length v = some (us ++ [v])
  | [] => rfl
  | u :: r => by
    show (match ki_setL (r ++ [z]) r.length v with | some q => some (u :: q) | none => none) = _
    rw [setL_last v z r]
    rfl
theorem strs_snoc : ∀ {us : List Value} {ws : List Str}, StrsAre us ws → us ≠ [] → ∃ us' ws' z t, us = us' ++ [.str z t] ∧ ws = ws' ++ [z] ∧ StrsAre us' ws'
  | _, _, .nil, h => absurd rfl h
  | _, _, .cons y t .nil, _ => ⟨[], [], y, t, rfl, rfl, .nil⟩
  | _, _, .cons y t (.cons y2 t2 r), _ => by
    obtain ⟨us', ws', z, t', e1, e2, e3⟩ := strs_snoc (.cons y2 t2 r) (by simp)
    exact ⟨_, _, z, t', by rw [e1]; rfl, by rw [e2]; rfl, .cons y t e3⟩
section
variable {w : World} {s : Shared} {A : Around} {E : Value → Shared → Prop} {h₀ : Heap} {L D : Addr} {m : Str → Option Value} {news news' : List (Addr × Obj)} {us : List Value} {z v : Value} {n : Nat} {t : Tok}
theorem get_last {Q : Value → Shared → Prop} (N : News h₀ L s.heap news) (hm : (D, listOf (us ++ [z]).toArray n) ∈ news) (h : Q z s) : wpAny (model prg w) A (getItem (.ref D) (.int (-1) t)) Q E s := by
  have hl : s.heap.IsList D (us ++ [z]).toArray := ⟨_, (N _ hm).1, rfl, _, rfl⟩
  refine wpAny_getItem_list_neg hl (by decide) ?_ (by decide) ?_ h
  · simp only [List.size_toArray, List.length_append, List.length_singleton]; omega
  · have e : ((-1 : Int) + ((us ++ [z]).toArray.size : Nat)).toNat = us.length := by
      simp only [List.size_toArray, List.length_append, List.length_singleton]; omega
    rw [e]
    simp
theorem set_last {Q : Unit → Shared → Prop} (F : Fr h₀ L s.heap m) (N : News h₀ L s.heap news) (U : Upd D (listOf (us ++ [z]).toArray n) (listOf (us ++ [v]).toArray n) news news')
    (h : ∀ h', Fr h₀ L h' m → News h₀ L h' news' → Q () { s with heap := h' }) : wpAny (model prg w) A (setItem (.ref D) (.int (-1) t) v) Q E s := by
  refine ki_setNeg (j := us.length) F N (by decide) (by decide) ?_ ?_ U h
  · have h1 : -((us ++ [z]).toArray.size : Int) ≤ -1 := by
      simp only [List.size_toArray, List.length_append, List.length_singleton]; omega
    rw [seqIndex_neg (by decide) h1]
    congr 1
    simp only [List.size_toArray, List.length_append, List.length_singleton]; omega
  · exact setL_last v z us
theorem fmod16 (x : Int) : x.fmod 16 = kindI x := by
  unfold kindI
  exact Int.fmod_eq_emod_of_nonneg _ (by decide)
theorem tm_cps (a : Nat) : (((⟨#[a]⟩ : Str) ++ (⟨#[a]⟩ : Str)) ++ Str.ofString "\"\",\\ \n#a=,\\").cps = (tmpl a).toArray := by
  show ((#[a] ++ #[a]) ++ (Str.ofString "\"\",\\ \n#a=,\\").cps : Array Nat) = _
  rw [show (Str.ofString "\"\",\\ \n#a=,\\").cps = #[34, 34, 44, 92, 32, 10, 35, 97, 61, 44, 92] from rfl]
  rfl
theorem item_tm {Q : Value → Shared → Prop} {value slice : Expr} {a : Nat} {x : Int} {t u : Tok} (h : 2 < x.fmod 16) (hq : ∀ tk t', Q (.str ⟨#[wsign a x]⟩ t') { s with toks := tk })
    (hs : ∀ X k, subscripted slice false (.str X t) (.int k u) = operate [.str X t, .int k u] (getItem (.str X t) (.int k u)) := by intro _ _; with_unfolding_all rfl) (ht : ∀ X r, letTemporaryGo value (.str X t) r = pure () := by intro _ _; with_unfolding_all rfl) :
    wpAny (model prg w) A (subscriptTail value slice (.str (((⟨#[a]⟩ : Str) ++ (⟨#[a]⟩ : Str)) ++ Str.ofString "\"\",\\ \n#a=,\\") t) (.int (x.fmod 16 - 3) u)) Q E s := by
  have hk : x.fmod 16 < 16 := by rw [fmod16]; exact Int.emod_lt_of_pos _ (by decide)
  have hl : (((⟨#[a]⟩ : Str) ++ (⟨#[a]⟩ : Str)) ++ Str.ofString "\"\",\\ \n#a=,\\").length = 13 := by
    show (((⟨#[a]⟩ : Str) ++ (⟨#[a]⟩ : Str)) ++ Str.ofString "\"\",\\ \n#a=,\\").cps.size = 13
    rw [tm_cps]; rfl
  have hi : Txt.item (((⟨#[a]⟩ : Str) ++ (⟨#[a]⟩ : Str)) ++ Str.ofString "\"\",\\ \n#a=,\\") (x.fmod 16 - 3) = ⟨#[wsign a x]⟩ := by
    show (⟨#[(Txt.charAt _ _).getD 0]⟩ : Str) = _
    unfold Txt.charAt wsign
    rw [hl, tm_cps, ← fmod16]
    generalize x.fmod 16 = j at h hk
    obtain ⟨n, rfl⟩ : ∃ n : Nat, j = 3 + (n : Int) := ⟨(j - 3).toNat, by omega⟩
    have e : (3 + (n : Int) - 3) = (n : Int) := by omega
    rw [e, Int.toNat_natCast]
    have hn : n < 13 := by omega
    have s1 : seqIndex? (n : Int) 13 = some n := by
      match n, hn with
      | 0, _ | 1, _ | 2, _ | 3, _ | 4, _ | 5, _ | 6, _ | 7, _ | 8, _ | 9, _ | 10, _ | 11, _ | 12, _ => rfl
    rw [s1]
    match n, hn with
    | 0, _ | 1, _ | 2, _ | 3, _ | 4, _ | 5, _ | 6, _ | 7, _ | 8, _ | 9, _ | 10, _ | 11, _ | 12, _ => rfl
  refine tail_of_ItemOn (SBL.item (by omega) (by rw [hl]; omega) (by rw [hl]; decide) fun _ => ?_) (hs _ _) (ht _)
  rw [hi]
  exact hq _ _
end
end Mine

end
section
open PySem PySem.W PySem.Calls PyProof.Rows
set_option Elab.async false
set_option maxRecDepth 100000
set_option linter.unusedVariables false
set_option maxHeartbeats 400000
namespace Mine
section
variable {prog : Program} {w : World} {A : Around} {E : Value → Shared → Prop} {Q : Flow → Shared → Prop} {s : Shared} {env : Env} {h₀ : Heap} {x : Str} {body : List Stmt} {σ : Type}
/-- the end of a turn whose ledger may grow -/
def GrowEnd (h₀ : Heap) (L : Addr) (iI : Addr × Obj) (sl : Addr × Obj) (Led : σ → List (Addr × Obj)) (ps : σ → List (Str × Value)) (Facts : σ → Prop) (x : Str) (stored : List Str) (m₀ : Str → Option Value) (P : σ → Prop) (s₁ s₂ : Shared) : Prop :=
  ∃ (c : σ) (h' : Heap) (tk : Nat) (m' : Str → Option Value), s₂ = { s₁ with heap := h', toks := tk } ∧ Fr h₀ L h' m' ∧ News h₀ L h' (iI :: sl :: Led c) ∧ (∀ p ∈ Led c, p.1 ≠ iI.1) ∧ Facts c ∧ (∀ p ∈ ps c, m' p.1 = some p.2) ∧ (∀ z, z ≠ x → (∀ p ∈ ps c, z ≠ p.1) → stored.contains z = false → m' z = m₀ z) ∧ P c
def GrowPost (h₀ : Heap) (L : Addr) (iI : Addr × Obj) (sl : Addr × Obj) (Led : σ → List (Addr × Obj)) (ps : σ → List (Str × Value)) (Facts : σ → Prop) (x : Str) (stored : List Str) (m₀ : Str → Option Value) (P : σ → Prop) (s₁ : Shared) (Q : Flow → Shared → Prop) (f : Flow) (s₂ : Shared) : Prop :=
  match f with
  | .ret v => Q (.ret v) s₂
  | .brk => Q .next s₂
  | _ => GrowEnd h₀ L iI sl Led ps Facts x stored m₀ P s₁ s₂
theorem grow_list {l : Addr} {vs : List Value} {ns : List Int} {nn : Nat} {m₀ : Str → Option Value} (Led : σ → List (Addr × Obj)) (ps : σ → List (Str × Value)) (Facts : σ → Prop) (stored : List Str) (P : List Int → σ → Prop) (c₀ : σ)
    (hh : A.handled = none) (hi : IntsAre vs ns) (F : Fr h₀ env.locals s.heap m₀) (N : News h₀ env.locals s.heap ((l, listOf vs.toArray nn) :: Led c₀)) (hf : Facts c₀) (hk : ∀ p ∈ ps c₀, m₀ p.1 = some p.2) (hp : P [] c₀)
    (turn : ∀ (c : σ) pre post n t (u : Str → Option Value) h tk I oI, ns = pre ++ n :: post → (∀ p ∈ Led c, p.1 ≠ I) → @Ne Nat l I → Facts c → P pre c →
      Fr h₀ env.locals h (fun y => if y = x then some (.int n t) else kstB (fun z => if stored.contains z then u z else m₀ z) (ps c) y) → News h₀ env.locals h ((I, oI) :: (l, listOf vs.toArray nn) :: Led c) →
      wpAny (model prog w) A (execs body env) (GrowPost h₀ env.locals (I, oI) (l, listOf vs.toArray nn) Led ps Facts x stored m₀ (P (pre ++ [n])) { s with heap := h, toks := tk } Q) E { s with heap := h, toks := tk })
    (done : ∀ (c : σ) (u : Str → Option Value) h tk, Facts c → P ns c → Fr h₀ env.locals h (fun y => if y = x then u y else kstB (fun z => if stored.contains z then u z else m₀ z) (ps c) y) → News h₀ env.locals h ((l, listOf vs.toArray nn) :: Led c) → Q .next { s with heap := h, toks := tk }) :
    wpAny (model prog w) A (pyIter (.ref l)) (fun it s₂ => LoopAtV prog w A h₀ env x body Q E it s₂) E s := by
  have hol : s.heap.get? l = some (listOf vs.toArray nn) := (N _ (.head _)).1
  have hls : s.heap.IsList l vs.toArray := ⟨_, hol, rfl, nn, rfl⟩
  have hne : l ≠ s.heap.objs.size := Nat.ne_of_lt (Heap.lt_size hol)
  refine wpAny_pyIter_list hls ?_
  have W := Walks.list (prog := prog) (w := w) hh s.heap.objs.size l hne vs.toArray
  have hlen : vs.toArray.size = ns.length := by simp [hi.length]
  rw [hlen] at W
  refine ⟨_, _, _, ns.length, _, _, m₀, (l, listOf vs.toArray nn) :: Led c₀, (fun i m nx => ∃ c : σ, nx = (l, listOf vs.toArray nn) :: Led c ∧ Facts c ∧ (∀ p ∈ ps c, m p.1 = some p.2) ∧ (∀ z, z ≠ x → (∀ p ∈ ps c, z ≠ p.1) → stored.contains z = false → m z = m₀ z) ∧ P (ns.take i) c), rfl, W, ?_, ?_, ?_, ⟨⟨_, Heap.get?_push_size _ rfl, rfl, rfl⟩, hls.at fun o e => Heap.get?_push_of_some _ e⟩, F.push _, (fun p hp => ⟨Heap.get?_push_of_some _ (N p hp).1, (N p hp).2⟩), ⟨c₀, rfl, hf, hk, fun _ _ _ _ => rfl, hp⟩, ?_, ?_⟩
  · intro hm
    rcases List.mem_cons.mp hm with e | hm
    · exact absurd F.ns.lt (e ▸ Nat.lt_irrefl _)
    · exact (N _ (.head _)).2.1 ((List.mem_singleton.mp hm).symm)
  · intro b hb
    rw [List.mem_singleton.mp hb]
    exact next_is_new F
  · intro p hp hI
    exact absurd (Heap.lt_size (N p hp).1) ((List.mem_singleton.mp hI) ▸ Nat.lt_irrefl _)
  · rintro i v m₁ news₁ s₁ own ⟨hh', tk', rfl⟩ hin hP ⟨c, rfl, hf', h1, h2, hp'⟩ hoff hown hget hfp hst F₁ N₁
    have hlt' : i < ns.length := hin
    obtain ⟨t, hx⟩ := hi.get i ns[i] (List.getElem?_eq_getElem hlt')
    have hv : v = .int ns[i] t := by
      have hP' : vs[i]? = some v := by rw [← List.getElem?_toArray]; exact hP
      rw [hx] at hP'; exact (Option.some.inj hP').symm
    subst hv
    obtain ⟨oI, hoI, _⟩ := hst.1
    have hIo : (s.heap.objs.size, oI) ∈ own := hfp _ (.head _) (next_is_new F) oI hoI
    have hlo : hh'.get? l = some (listOf vs.toArray nn) := (N₁ _ (List.mem_append_right _ (.head _))).1
    have N₂ : News h₀ env.locals hh' ((s.heap.objs.size, oI) :: (l, listOf vs.toArray nn) :: Led c) := fun p hp => by
      rcases List.mem_cons.mp hp with rfl | hp
      · exact N₁ _ (List.mem_append_left _ hIo)
      · exact N₁ _ (List.mem_append_right _ hp)
    have hs : ns.take (i + 1) = ns.take i ++ [ns[i]] := by rw [List.take_add_one, List.getElem?_eq_getElem hlt']; rfl
    have e : ns = ns.take i ++ ns[i] :: ns.drop (i + 1) := by
      have ht := List.take_append_drop (i + 1) ns
      rw [hs, List.append_assoc] at ht
      exact ht.symm
    refine wpAny_mono (turn c _ _ ns[i] t m₁ hh' tk' _ oI e (fun p hp z => hoff p (.tail _ hp) (List.mem_singleton.mpr z)) hne hf' hp' (kst_fr h1 h2 F₁) N₂) (fun f s₂ p => ?_) fun _ _ e => e
    have fin : GrowEnd h₀ env.locals (s.heap.objs.size, oI) (l, listOf vs.toArray nn) Led ps Facts x stored m₀ (P (ns.take i ++ [ns[i]])) { s with heap := hh', toks := tk' } s₂ →
        LoopStepU h₀ env.locals [s.heap.objs.size] own (fun m nx => ∃ c : σ, nx = (l, listOf vs.toArray nn) :: Led c ∧ Facts c ∧ (∀ p ∈ ps c, m p.1 = some p.2) ∧ (∀ z, z ≠ x → (∀ p ∈ ps c, z ≠ p.1) → stored.contains z = false → m z = m₀ z) ∧ P (ns.take (i + 1)) c) { s with heap := hh', toks := tk' } .next s₂ := by
      rintro ⟨c', h', tk, m', e', F', N', ho, hf2, hk2, hr2, hp2⟩
      refine ⟨rfl, h', tk, m', (l, listOf vs.toArray nn) :: Led c', e', F', fun p hp => ?_, fun p hp hI => ?_, c', rfl, hf2, hk2, hr2, hs ▸ hp2⟩
      · rcases List.mem_append.mp hp with h | h
        · have hg := hget p h
          rcases List.mem_cons.mp (hown p h) with h3 | h3
          · have : p = (s.heap.objs.size, oI) := Prod.ext h3 (by
              rw [h3] at hg
              exact (Option.some.inj (hg.symm.trans hoI)))
            rw [this]; exact N' _ (.head _)
          · have h4 := List.mem_singleton.mp h3
            have : p = (l, listOf vs.toArray nn) := Prod.ext h4 (by
              rw [h4] at hg
              exact (Option.some.inj (hg.symm.trans hlo)))
            rw [this]; exact N' _ (.tail _ (.head _))
        · exact N' p (.tail _ h)
      · rcases List.mem_cons.mp hp with rfl | hp
        · exact hne (List.mem_singleton.mp hI)
        · exact ho p hp (List.mem_singleton.mp hI)
    cases f with
    | ret v => exact .ret p
    | brk => exact .brk p
    | next => exact .next (fin p)
    | cont => exact .cont (fin p)
  · rintro h' tk m' news' F' N' _ ⟨c, rfl, hf', h1, h2, hp'⟩
    rw [List.take_length] at hp'
    exact done c m' h' tk hf' hp' (kst_frOut h1 h2 F') N'
end
end Mine

end
section
open PySem PySem.W PySem.Calls PyProof.Rows
set_option Elab.async false
set_option maxRecDepth 100000
set_option linter.unusedVariables false
set_option maxHeartbeats 1000000
set_option compiler.extract_closed false
namespace Mine
theorem fillK_Wd : (PySem.Challenge.rw_mq0407_01 = PySem.Challenge.rw_mq0407_01) ∧ KK = KK := by
  k_fill
  exact ⟨rfl, rfl⟩
/-- the sign meant -/
inductive AposIs : Nat → Prop
  | mk (n : Nat) : AposIs n
structure WS where
  ws : List Str
  us : List Value
  n : Nat
theorem w_end {h₀ h' : Heap} {L : Addr} {m₀ m' : Str → Option Value} {l D : Addr} {vs us' : List Value} {ws' : List Str} {k' : Nat} {pre : List Int} {n : Int} {own : List (Addr × Obj)} {news : List (Addr × Obj)} {s₁ : Shared} {tk : Nat} {a : Nat} {ws : List Str}
    (F : Fr h₀ L h' m') (N : News h₀ L h' news) (hs : ∀ p ∈ (l, listOf vs.toArray 0) :: (D, listOf us'.toArray k') :: own, p ∈ news) (hS : StrsAre us' ws') (hw : ws = wordsT a pre) (he : ws' = wstep a ws n)
    (h4 : ∀ z, z ≠ Str.ofString "x" → z ≠ Str.ofString "kind" → m' z = m₀ z) :
    InvEndN h₀ L (KstS (fun c : WS => [(l, listOf vs.toArray 0), (D, listOf c.us.toArray c.n)]) (fun _ => []) (fun c => StrsAre c.us c.ws) (Str.ofString "x") [Str.ofString "kind"] m₀ (fun pre c => c.ws = wordsT a pre) (pre ++ [n])) own [l, D] s₁ { s₁ with heap := h', toks := tk } := by
  refine kst_end (⟨ws', us', k'⟩ : WS) F N ?_ ?_ rfl hS ?_ ?_ ?_
  · intro p hp
    exact hs p (by simp only [List.mem_cons, List.not_mem_nil, or_false] at hp ⊢; rcases hp with rfl | rfl <;> simp)
  · intro p hp
    exact hs p (.tail _ (.tail _ hp))
  · intro p hp; exact nomatch hp
  · intro z hz _ hc
    exact h4 z hz (by simpa using hc)
  · show ws' = wordsT a (pre ++ [n])
    rw [he, hw]
    unfold wordsT
    rw [List.foldl_append]
    rfl
section
variable {w : World} {tp : Program} {loose : List Str} {mean : ExcName → Option Value} {mg mb : Str → Option Value} {base g : Heap} {outer : List Env} {s : Shared} {dp un : Nat} {gd : Option (List Code)} {R : Result → Shared → Prop} {fp : List (Addr × Obj)} {fr : Option (List Env)} {A : Around} {E : Value → Shared → Prop}
local macro_rules | `(tactic| k_room) => `(tactic| ((try simp only [depth_under_make, depth_under_kw, depth_in1, depth_deeper, depth_caller]); (try dsimp only [Around.deeper, Around.under, Around.in1]); first | exact room0 (by assumption) | exact room1 (by assumption) rfl | exact room2 (by assumption) rfl | omega))
theorem words_loop {env : Env} {h₀ : Heap} {body : List Stmt} {Q : Flow → Shared → Prop} {m₀ : Str → Option Value} {l D : Addr} {vs : List Value} {ns : List Int} {a : Nat} (_ha : AposIs a)
    (hh : A.handled = none) (F : Fr h₀ env.locals s.heap m₀) (N : News h₀ env.locals s.heap [(l, listOf vs.toArray 0), (D, listOf ([] : List Value).toArray 0)]) (hi : IntsAre vs ns) (hns : ns.length ≤ 63)
    (turn : ∀ (ws : List Str) (us : List Value) (k : Nat) (pre post : List Int) (n : Int) t (u : Str → Option Value) h tk own, ns = pre ++ n :: post → OwnOff own [l, D] → StrsAre us ws → ws = wordsT a pre → us.length ≤ 200 → pre.length ≤ 63 →
      Fr h₀ env.locals h (fun y => if y = Str.ofString "x" then some (.int n t) else if y = Str.ofString "kind" then u y else m₀ y) →
      News h₀ env.locals h ((l, listOf vs.toArray 0) :: (D, listOf us.toArray k) :: own) →
      wpAny (model prg w) A (execs body env) (InvPostN h₀ env.locals (KstS (fun c : WS => [(l, listOf vs.toArray 0), (D, listOf c.us.toArray c.n)]) (fun _ => []) (fun c => StrsAre c.us c.ws) (Str.ofString "x") [Str.ofString "kind"] m₀ (fun pre c => c.ws = wordsT a pre) (pre ++ [n])) own [l, D] { s with heap := h, toks := tk } Q) E { s with heap := h, toks := tk })
    (done : ∀ (ws : List Str) (us : List Value) (k : Nat) (u : Str → Option Value) h tk, StrsAre us ws → ws = wordsT a ns →
      Fr h₀ env.locals h (fun y => if y = Str.ofString "x" then u y else if y = Str.ofString "kind" then u y else m₀ y) →
      News h₀ env.locals h [(l, listOf vs.toArray 0), (D, listOf us.toArray k)] → Q .next { s with heap := h, toks := tk }) :
    wpAny (model prg w) A (pyIter (.ref l)) (fun it s₂ => LoopAtV prg w A h₀ env (Str.ofString "x") body Q E it s₂) E s := by
  have fr : ∀ (h : Heap) (m₁ : Str → Option Value) (v : Str → Option Value), Fr h₀ env.locals h (fun y => if y = Str.ofString "x" then v y else kstB (fun z => if [Str.ofString "kind"].contains z then m₁ z else m₀ z) [] y) → Fr h₀ env.locals h (fun y => if y = Str.ofString "x" then v y else if y = Str.ofString "kind" then m₁ y else m₀ y) := by
    intro h m₁ v F
    have e : (fun y => if y = Str.ofString "x" then v y else kstB (fun z => if [Str.ofString "kind"].contains z then m₁ z else m₀ z) [] y) = (fun y => if y = Str.ofString "x" then v y else if y = Str.ofString "kind" then m₁ y else m₀ y) := by
      funext y
      show (if y = Str.ofString "x" then v y else if [Str.ofString "kind"].contains y = true then m₁ y else m₀ y) = _
      congr 1
      by_cases h2 : y = Str.ofString "kind"
      · rw [if_pos h2, if_pos (by simpa using h2)]
      · rw [if_neg h2, if_neg (by simpa using h2)]
    rw [← e]; exact F
  refine kst_listL (σ := WS) (nn := 0) (fun c => [(l, listOf vs.toArray 0), (D, listOf c.us.toArray c.n)]) (fun _ => []) (fun c => StrsAre c.us c.ws) [Str.ofString "kind"] (fun pre c => c.ws = wordsT a pre) ⟨[], [], 0⟩ hh (fun c => .head _) hi F N StrsAre.nil (fun p hp => nomatch hp) rfl ?_ ?_
  · intro c pre post n t u h tk own e _ hoff hf hp F' N'
    have hb : c.us.length ≤ 200 := by
      rw [StrsAre.length hf, hp]
      have a := words_wt a pre
      have b := congrArg List.length e
      rw [List.length_append, List.length_cons] at b
      omega
    exact turn c.ws c.us c.n pre post n t u h tk own e hoff hf hp hb (by have b := congrArg List.length e; rw [List.length_append, List.length_cons] at b; omega) (fr h u (fun _ => some (.int n t)) F') N'
  · intro c u h tk hf hp F' N'
    exact done c.ws c.us c.n u h tk hf hp (fr h u u F') N'
local macro_rules | `(tactic| walk_at "exec For") => `(tactic| (k_dflt (refine' For_invV _ ?c ?cl ?_ ?fo ?E; (case c => exact rfl); (case cl => exact rfl); (case fo => (intro _; rfl)); (case E => passes_own))))
local macro_rules | `(tactic| walk_at "pyIter ref") => `(tactic| (refine' words_loop (env := envOf _ _ _ _ _) (by assumption) ?hh ?F ?N ?hi ?hns ?_ ?_; (case hh => exact rfl); (case F => assumption); (case N => assumption); (case hi => assumption); (case hns => omega); (all_goals first | (intro ws9 us9 k9 pre9 post9 n9 t9 u9 h9 tk9 own9 hE9 hO9 hS9 hW9 hB9 hP9 F9 N9; (have hMk9 := kstMark)) | skip); (all_goals first | (intro ws9 us9 k9 u9 h9 tk9 hS9 hW9 F9 N9) | skip)))
theorem app_w {E : Value → Shared → Prop} {h₀ : Heap} {L l D : Addr} {m : Str → Option Value} {own : List (Addr × Obj)} {Q : Value → Shared → Prop} {vs us : List Value} {k : Nat} {x : Value} (F : Fr h₀ L s.heap m) (N : News h₀ L s.heap ((l, listOf vs.toArray 0) :: (D, listOf us.toArray k) :: own)) (hne : D < l) (ho : OwnOff own [l, D]) (hsz : us.length ≤ 100000)
    (h : ∀ h', Fr h₀ L h' m → News h₀ L h' ((l, listOf vs.toArray 0) :: (D, listOf (us ++ [x]).toArray (k + 1)) :: own) → Q .none { s with heap := h' }) : wpAny (model prg w) A (call (.builtin "list.append") [.ref D, x]) Q E s := by
  refine append_K F N (.tail (Nat.ne_of_gt hne) (.head (fun p hp => ho p hp D (.tail _ (.head _))))) (fun h' F' N' => h h' F' ?_) (by simp only [List.size_toArray]; exact Nat.le_trans hsz (by decide))
  rw [List.push_toArray] at N'
  exact N'
theorem eq_w {E : Value → Shared → Prop} {h₀ : Heap} {L D Z : Addr} {m : Str → Option Value} {news : List (Addr × Obj)} {Q : Value → Shared → Prop} {us : List Value} {k n : Nat} (_F : Fr h₀ L s.heap m) (N : News h₀ L s.heap news) (h1 : (Z, listOf ([] : List Value).toArray n) ∈ news) (h2 : (D, listOf us.toArray k) ∈ news) (hu : A.units < cLine)
    (hn : us ≠ [] → Q (.bool false) s) (hz : us = [] → Q (.bool true) s) : wpAny (model prg w) A (compareOp .Eq (.ref D) (.ref Z)) Q E s := by
  have a : s.heap.IsList D us.toArray := ⟨_, (N _ h2).1, rfl, _, rfl⟩
  have b : s.heap.IsList Z ([] : List Value).toArray := ⟨_, (N _ h1).1, rfl, _, rfl⟩
  cases us with
  | nil => exact PySem.SeqAt.eq_listAt (e := fun _ => true) a b rfl hu (fun j h => absurd h (Nat.not_lt_zero _)) (hz rfl)
  | cons v r => exact PySem.SeqAt.eq_list_lengthsAt a b (by simp) hu (hn (by simp))
local macro_rules | `(tactic| walk_at "call builtin:list.append") => `(tactic| (refine' app_w ?F ?N ?ne ?ho ?sz ?_; (case F => assumption); (case N => first | assumption | exact sub_app (by assumption) (fun p hp => List.mem_cons_of_mem _ hp)); (case ne => assumption); (case ho => assumption); (case sz => omega); intro h8 F8 N8))
local macro_rules | `(tactic| walk_at "compareOp Eq ref ref") => `(tactic| (refine' eq_w ?F ?N ?h1 ?h2 ?hu ?_ ?_; (case F => assumption); (case N => assumption); (case h1 => exact .head _); (case h2 => first | exact .tail _ (.tail _ (.head _)) | exact .tail _ (.head _)); (case hu => k_room); (all_goals first | intro hx8 | skip)))
theorem w_new {a : Nat} {ws : List Str} {n : Int} (h : n.fmod 16 < 3) : ws ++ [Str.ofString ""] = wstep a ws n := by
  rw [fmod16] at h
  unfold wstep
  rw [if_neg (by omega), if_pos (.inl h)]
theorem w_add {a : Nat} {ws : List Str} {z : Str} {n : Int} (h : ¬ n.fmod 16 < 3) (h2 : 2 < n.fmod 16) : ws ++ [z ++ ⟨#[wsign a n]⟩] = wstep a (ws ++ [z]) n := by
  rw [fmod16] at h h2
  unfold wstep
  rw [if_pos h2, if_neg (fun x => by rcases x with x | x; exact h x; simp at x), addL_snoc]
theorem w_first {a : Nat} {us : List Value} {ws : List Str} {n : Int} (hS : StrsAre us ws) (hu : us = []) (h2 : 2 < n.fmod 16) : ws ++ [Str.ofString "" ++ ⟨#[wsign a n]⟩] = wstep a ws n := by
  rw [fmod16] at h2
  subst hu
  cases hS
  unfold wstep
  rw [if_pos h2, if_pos (.inr rfl)]
  rfl
theorem z_len {a : Nat} {ws : List Str} {z : Str} {pre : List Int} (h : ws ++ [z] = wordsT a pre) (hp : pre.length ≤ 63) : z.length ≤ 126 := by
  have w := words_wt a pre
  rw [← h] at w
  have e : (flat (ws ++ [z])).length = (flat ws).length + z.cps.toList.length := by
    unfold flat
    rw [List.flatMap_append, List.length_append]
    simp
  have e2 : z.cps.toList.length = z.length := by show z.cps.toList.length = z.cps.size; simp
  omega
theorem set_w {E : Value → Shared → Prop} {h₀ : Heap} {L l D : Addr} {m : Str → Option Value} {own : List (Addr × Obj)} {Q : Unit → Shared → Prop} {vs us : List Value} {k : Nat} {z v : Value} {t : Tok} (F : Fr h₀ L s.heap m) (N : News h₀ L s.heap ((l, listOf vs.toArray 0) :: (D, listOf (us ++ [z]).toArray k) :: own)) (hne : D < l) (ho : OwnOff own [l, D])
    (h : ∀ h', Fr h₀ L h' m → News h₀ L h' ((l, listOf vs.toArray 0) :: (D, listOf (us ++ [v]).toArray k) :: own) → Q () { s with heap := h' }) : wpAny (model prg w) A (setItem (.ref D) (.int (-1) t) v) Q E s :=
  set_last F N (.tail (Nat.ne_of_gt hne) (.head (fun p hp => ho p hp D (.tail _ (.head _))))) h
local macro_rules | `(tactic| walk_at "exec If") => `(tactic| refine wpAny_If ?_)
local macro_rules | `(tactic| walk_at "execs cons") => `(tactic| ((with_reducible refine wpAny_execs_cons ?_); try dsimp only))
local macro_rules | `(tactic| walk_at "getItem ref int") => `(tactic| first
  | (exfalso; omega)
  | (refine get_last (by assumption) (by k_mem) ?_)
  | ((rename (_ ≠ []) => hne8); (rename StrsAre _ _ => hS8); (rename (_ = wordsT _ _) => hW8); (have hx8 := strs_snoc hS8 hne8); clear hS8; (obtain ⟨us8, ws8, z8, tz8, e18, e28, hS8⟩ := hx8); subst e18; subst e28; (have hz8 := z_len hW8 (by assumption)); refine get_last (by assumption) (by k_mem) ?_))
local macro_rules | `(tactic| walk_at "subscriptTail Name BinOp str int") => `(tactic| (k_dflt (refine item_tm (by omega) ?_); intro k8 t8))
local macro_rules | `(tactic| walk_at "setItem ref int") => `(tactic| (refine' set_w ?F ?N ?ne ?ho ?_; (case F => assumption); (case N => first | assumption | exact sub_app (by assumption) (fun p hp => List.mem_cons_of_mem _ hp)); (case ne => assumption); (case ho => assumption); intro h8 F8 N8))
local macro_rules | `(tactic| walk_at "InvEndN") => `(tactic| first
  | (exfalso; omega)
  | (refine' w_end ?F ?N ?s ?S ?w ?e ?r; (case F => assumption); (case N => assumption); (case s => first | exact fun p hp => hp | exact fun p hp => List.mem_cons_of_mem _ hp); (case S => first | assumption | exact StrsAre.append' (by assumption) (.cons _ _ .nil)); (case w => assumption); (case r => (intro z e1 e2; (simp only [e1, e2, if_false]); (try rfl))); (case e => first | exact w_new (by omega) | exact w_add (by omega) (by omega) | exact w_first (by assumption) (by assumption) (by omega))))
theorem wrds_c (r : Addr) (us : List Value) (n : Nat) (xs : List Int) (a : Nat) (t : Tok) (hr : g.get? r = some (listOf us.toArray n)) (hI : IntsAre us xs) (hlen : xs.length ≤ 63)
    (B : Below (AA dp un gd outer) base outer g) (X : (KK w.params).In g) (T : Top tp loose mean mg mb g) (P : Pre g s.heap []) (hd : dp + 10 < recursionLimit) (hu : un + 100 < cLine)
    (h : ∀ D vs k h' tk', StrsAre vs (wordsT a (xs.take 16)) → Pre g h' [(D, listOf vs.toArray k)] → R (.ok (.ret (.ref D))) { s with heap := h', toks := tk' }) :
    codeAny (model prg w) (AA dp un gd outer) (.call (.ref 778) ⟨[.ref r, .str ⟨#[a]⟩ t], []⟩) R s := by
  w_on
  k_dflt (refine' enter P X T ?k6 ?k7 ?k8 ?k9 ?kB ?_ ?c5 ?c2 ?c3 ?c4; (case k6 => k_is); (case k7 => k_is); (case k8 => first | exact room0 (by assumption) | omega); (case k9 => first | exact BindsTo.of_eq rfl | exact binds_K (Frag.In.keeps X (Pre.keep P)) rfl (by k_is) rfl rfl rfl); (case c5 => decide); (case kB => exact locs rfl); (case c2 => exact rfl); (case c3 => exact rfl); (case c4 => exact rfl))
  intro L' h₁ F N hlt
  (try dsimp only)
  (try k_fold)
  have ha9 : AposIs a := .mk a
  have hIs : g.IsList r us.toArray := ⟨_, hr, rfl, _, rfl⟩
  w_strict k_steps
  all_goals (try dsimp only)
  all_goals (try k_unfold)
  all_goals (try dsimp only)
  refine h _ _ _ _ _ ?_ (Pre.of_fr (by assumption) (by assumption) (fun _ h => by rw [List.mem_singleton.mp h]; exact .tail _ (.head _)))
  rename _ = wordsT _ _ => e
  rw [← e]
  assumption
end
end Mine

end
section
open PySem PySem.W PySem.Calls PyProof.Rows
set_option Elab.async false
set_option maxRecDepth 100000
set_option linter.unusedVariables false
set_option maxHeartbeats 400000
namespace Mine
/-- references to lists of texts -/
inductive RefsAre (olds : List (Addr × Obj)) : List Value → List (List Str) → Prop
  | nil : RefsAre olds [] []
  | cons {b : Addr} {us : List Value} {n : Nat} {ws : List Str} {refs : List Value} {T : List (List Str)} : (b, listOf us.toArray n) ∈ olds → StrsAre us ws → RefsAre olds refs T → RefsAre olds (.ref b :: refs) (ws :: T)
theorem RefsAre.mono {o1 o2 : List (Addr × Obj)} (h : ∀ p ∈ o1, p ∈ o2) : ∀ {refs T}, RefsAre o1 refs T → RefsAre o2 refs T
  | _, _, .nil => .nil
  | _, _, .cons a b c => .cons (h _ a) b (c.mono h)
theorem RefsAre.snoc {olds : List (Addr × Obj)} {b : Addr} {us : List Value} {n : Nat} {ws : List Str} (a : (b, listOf us.toArray n) ∈ olds) (hS : StrsAre us ws) : ∀ {refs T}, RefsAre olds refs T → RefsAre olds (refs ++ [Value.ref b]) (T ++ [ws])
  | _, _, .nil => .cons a hS .nil
  | _, _, .cons x y z => .cons x y (RefsAre.snoc a hS z)
theorem RefsAre.length {olds : List (Addr × Obj)} : ∀ {refs T}, RefsAre olds refs T → refs.length = T.length
  | _, _, .nil => rfl
  | _, _, .cons _ _ c => by rw [List.length_cons, List.length_cons, c.length]
structure CmS where
  olds : List (Addr × Obj)
  refs : List Value
  oldT : List (List Str)
  r : Addr
  us : List Value
  k : Nat
  cur : List Str
  n : Nat
  ins : Bool
@[reducible] def CmLed (C : Addr) (c : CmS) : List (Addr × Obj) := (C, listOf (c.refs ++ [Value.ref c.r]).toArray c.n) :: (c.r, listOf c.us.toArray c.k) :: c.olds
@[reducible] def CmPs (c : CmS) : List (Str × Value) := [(Str.ofString "inside", .bool c.ins)]
structure CmF (l C : Addr) (c : CmS) : Prop where
  rl : @Ne Nat c.r l
  fR : RefsAre c.olds c.refs c.oldT
  fS : StrsAre c.us c.cur
  rC : @Ne Nat c.r C
  oC : ∀ p ∈ c.olds, @Ne Nat p.1 C
  oR : ∀ p ∈ c.olds, @Ne Nat p.1 c.r
def CmP (pre : List Int) (c : CmS) : Prop := crun pre = ⟨c.oldT, c.cur, c.ins⟩
theorem crun_snoc (pre : List Int) (x : Int) : crun (pre ++ [x]) = cstep (crun pre) x := by
  unfold crun
  rw [List.foldl_append]
  rfl
theorem crun_sizes (pre : List Int) : (crun pre).old.length ≤ pre.length ∧ (crun pre).cur.length ≤ pre.length := by
  suffices h : ∀ n (pre : List Int), pre.length = n → (crun pre).old.length ≤ pre.length ∧ (crun pre).cur.length ≤ pre.length from h _ pre rfl
  intro n
  induction n with
  | zero => intro pre e; rw [List.length_eq_zero_iff.mp e]; exact ⟨Nat.le_refl _, Nat.le_refl _⟩
  | succ n ih =>
    intro l e
    obtain ⟨l', c, rfl⟩ : ∃ l' c, l = l' ++ [c] := ⟨l.dropLast, l.getLast (by intro z; rw [z] at e; cases e), (List.dropLast_concat_getLast _).symm⟩
    have e' : l'.length = n := by simpa using e
    obtain ⟨a, b⟩ := ih l' e'
    rw [crun_snoc, List.length_append, List.length_singleton]
    unfold cstep
    split
    · simp only [List.length_append, List.length_singleton, List.length_nil]; omega
    · split
      · simp only [List.length_append, List.length_singleton]; omega
      · refine ⟨by dsimp only; omega, ?_⟩
        dsimp only
        rw [addL_len]
        split
        · simp only [List.length_singleton]; omega
        · omega
theorem ins_ne {pre : List Int} {oldT : List (List Str)} {cur : List Str} (h : crun pre = ⟨oldT, cur, true⟩) : cur ≠ [] := by
  intro z
  have := (cinv_run pre).2
  rw [h, z] at this
  cases this
def CmEnd (l C : Addr) (h₀ : Heap) (L : Addr) (I : Addr) (oI : Obj) (sl : Addr × Obj) (m₀ : Str → Option Value) (P : CmS → Prop) (s₁ s₂ : Shared) : Prop :=
  GrowEnd h₀ L (I, oI) sl (CmLed C) CmPs (CmF l C) (Str.ofString "x") [Str.ofString "kind", Str.ofString "sign"] m₀ P s₁ s₂
def CmPost (l C : Addr) (h₀ : Heap) (L : Addr) (I : Addr) (oI : Obj) (sl : Addr × Obj) (m₀ : Str → Option Value) (P : CmS → Prop) (s₁ : Shared) (Q : Flow → Shared → Prop) (f : Flow) (s₂ : Shared) : Prop :=
  match f with
  | .ret v => Q (.ret v) s₂
  | .brk => Q .next s₂
  | _ => CmEnd l C h₀ L I oI sl m₀ P s₁ s₂
theorem news_tail {g h : Heap} {L : Addr} {p : Addr × Obj} {l : List (Addr × Obj)} (N : News g L h (p :: l)) : News g L h l := fun q hq => N q (.tail _ hq)
theorem cm_end {l C : Addr} {h₀ h' : Heap} {L I : Addr} {oI : Obj} {sl : Addr × Obj} {m₀ m' : Str → Option Value} {P : CmS → Prop} {s₁ : Shared} {tk : Nat} {news olds : List (Addr × Obj)} {refs : List Value} {oldT : List (List Str)} {r : Addr} {us : List Value} {k : Nat} {cur : List Str} {n : Nat} {ins : Bool}
    (F : Fr h₀ L h' m') (N : News h₀ L h' news) (hs : ∀ p ∈ (I, oI) :: sl :: (C, listOf (refs ++ [Value.ref r]).toArray n) :: (r, listOf us.toArray k) :: olds, p ∈ news) (hI : ∀ p ∈ (C, listOf (refs ++ [Value.ref r]).toArray n) :: (r, listOf us.toArray k) :: olds, p.1 ≠ I)
    (hF : CmF l C ⟨olds, refs, oldT, r, us, k, cur, n, ins⟩) (hin : m' (Str.ofString "inside") = some (.bool ins)) (hr : ∀ z, z ≠ Str.ofString "x" → z ≠ Str.ofString "inside" → z ≠ Str.ofString "kind" → z ≠ Str.ofString "sign" → m' z = m₀ z) (hP : P ⟨olds, refs, oldT, r, us, k, cur, n, ins⟩) :
    CmEnd l C h₀ L I oI sl m₀ P s₁ { s₁ with heap := h', toks := tk } := by
  refine ⟨⟨olds, refs, oldT, r, us, k, cur, n, ins⟩, h', tk, m', rfl, F, sub_app N hs, hI, hF, ?_, ?_, hP⟩
  · intro p hp; rw [List.mem_singleton.mp hp]; exact hin
  · intro z h1 h2 h3
    refine hr z h1 (h2 _ (.head _)) ?_ ?_
    · rintro rfl; exact absurd h3 (by decide)
    · rintro rfl; exact absurd h3 (by decide)
theorem cm_loop {w : World} {A : Around} {E : Value → Shared → Prop} {s : Shared} {env : Env} {h₀ : Heap} {body : List Stmt} {Q : Flow → Shared → Prop} {m₀ : Str → Option Value} {l C r : Addr} {vs : List Value} {ns : List Int}
    (hh : A.handled = none) (F : Fr h₀ env.locals s.heap m₀) (N : News h₀ env.locals s.heap [(l, listOf vs.toArray 0), (C, listOf [Value.ref r].toArray 0), (r, listOf ([] : List Value).toArray 0)]) (hrC : @LT.lt Nat _ r C) (hCl : @LT.lt Nat _ C l) (hin : m₀ (Str.ofString "inside") = some (.bool false)) (hi : IntsAre vs ns) (hns : ns.length ≤ 16)
    (turn : ∀ olds refs oldT (r : Nat) us k cur n ins pre x t (u : Str → Option Value) h tk I oI, crun pre = ⟨oldT, cur, ins⟩ → pre.length ≤ 16 → us.length ≤ 16 → refs.length ≤ 16 → (∀ z ∈ cur, z.length ≤ 100) → @Ne Nat r l → @Ne Nat r C → (∀ p ∈ olds, @Ne Nat p.1 C) → (∀ p ∈ olds, @Ne Nat p.1 r) → (∀ p ∈ olds, @Ne Nat p.1 I) → @Ne Nat C I → @Ne Nat r I → RefsAre olds refs oldT → StrsAre us cur →
      Fr h₀ env.locals h (fun y => if y = Str.ofString "x" then some (.int x t) else if y = Str.ofString "inside" then some (.bool ins) else if y = Str.ofString "kind" then u y else if y = Str.ofString "sign" then u y else m₀ y) →
      News h₀ env.locals h ((I, oI) :: (l, listOf vs.toArray 0) :: (C, listOf (refs ++ [Value.ref r]).toArray n) :: (r, listOf us.toArray k) :: olds) →
      wpAny (model prg w) A (execs body env) (CmPost l C h₀ env.locals I oI (l, listOf vs.toArray 0) m₀ (CmP (pre ++ [x])) { s with heap := h, toks := tk } Q) E { s with heap := h, toks := tk })
    (done : ∀ olds refs oldT (r : Nat) us k cur n ins (u : Str → Option Value) h tk, crun ns = ⟨oldT, cur, ins⟩ → us.length ≤ 16 → refs.length ≤ 16 → (∀ z ∈ cur, z.length ≤ 100) → @Ne Nat r C → (∀ p ∈ olds, @Ne Nat p.1 C) → (∀ p ∈ olds, @Ne Nat p.1 r) → RefsAre olds refs oldT → StrsAre us cur →
      Fr h₀ env.locals h (fun y => if y = Str.ofString "x" then u y else if y = Str.ofString "inside" then some (.bool ins) else if y = Str.ofString "kind" then u y else if y = Str.ofString "sign" then u y else m₀ y) →
      News h₀ env.locals h ((C, listOf (refs ++ [Value.ref r]).toArray n) :: (r, listOf us.toArray k) :: olds) → Q .next { s with heap := h, toks := tk }) :
    wpAny (model prg w) A (pyIter (.ref l)) (fun it s₂ => LoopAtV prg w A h₀ env (Str.ofString "x") body Q E it s₂) E s := by
  have fr : ∀ (h : Heap) (u v : Str → Option Value) (ins : Bool), Fr h₀ env.locals h (fun y => if y = Str.ofString "x" then v y else kstB (fun z => if [Str.ofString "kind", Str.ofString "sign"].contains z then u z else m₀ z) [(Str.ofString "inside", .bool ins)] y) → Fr h₀ env.locals h (fun y => if y = Str.ofString "x" then v y else if y = Str.ofString "inside" then some (.bool ins) else if y = Str.ofString "kind" then u y else if y = Str.ofString "sign" then u y else m₀ y) := by
    intro h u v ins F
    have e : (fun y => if y = Str.ofString "x" then v y else kstB (fun z => if [Str.ofString "kind", Str.ofString "sign"].contains z then u z else m₀ z) [(Str.ofString "inside", .bool ins)] y) = (fun y => if y = Str.ofString "x" then v y else if y = Str.ofString "inside" then some (.bool ins) else if y = Str.ofString "kind" then u y else if y = Str.ofString "sign" then u y else m₀ y) := by
      funext y
      show (if y = Str.ofString "x" then v y else if y = Str.ofString "inside" then _ else if [Str.ofString "kind", Str.ofString "sign"].contains y = true then u y else m₀ y) = _
      congr 1
      congr 1
      by_cases h2 : y = Str.ofString "kind"
      · rw [if_pos h2, if_pos (by simp [h2])]
      · rw [if_neg h2]
        by_cases h3 : y = Str.ofString "sign"
        · rw [if_pos h3, if_pos (by simp [h3])]
        · rw [if_neg h3, if_neg (by simp [h2, h3])]
    rw [← e]; exact F
  have sz : ∀ {pre : List Int} {c : CmS}, pre.length ≤ 16 → CmP pre c → CmF l C c → c.us.length ≤ 16 ∧ c.refs.length ≤ 16 ∧ ∀ z ∈ c.cur, z.length ≤ 100 := by
    intro pre c hl hp hf
    have a := crun_sizes pre
    rw [show crun pre = _ from hp] at a
    have b := hf.fR.length
    have d := StrsAre.length hf.fS
    dsimp only at a
    refine ⟨by omega, by omega, fun z hz => ?_⟩
    have e := run_wt pre
    rw [show crun pre = _ from hp] at e
    have e2 := each_le c.cur z hz
    unfold qwt at e
    dsimp only at e
    omega
  refine grow_list (σ := CmS) (nn := 0) (CmLed C) CmPs (CmF l C) [Str.ofString "kind", Str.ofString "sign"] CmP ⟨[], [], [], r, [], 0, [], 0, false⟩ hh hi F N ⟨Nat.ne_of_lt (Nat.lt_trans hrC hCl), .nil, .nil, Nat.ne_of_lt hrC, (fun _ h => nomatch h), (fun _ h => nomatch h)⟩ (fun p hp => by rw [List.mem_singleton.mp hp]; exact hin) rfl ?_ ?_
  · intro c pre post x t u h tk I oI e hne hlI hf hp F' N'
    have hl : pre.length ≤ 16 := by
      have b := congrArg List.length e
      rw [List.length_append, List.length_cons] at b
      omega
    obtain ⟨z1, z2, z3⟩ := sz hl hp hf
    exact turn c.olds c.refs c.oldT c.r c.us c.k c.cur c.n c.ins pre x t u h tk I oI hp hl z1 z2 z3 hf.rl hf.rC hf.oC hf.oR (fun p hp => hne p (.tail _ (.tail _ hp))) (hne _ (.head _)) (hne _ (.tail _ (.head _))) hf.fR hf.fS (fr h u (fun _ => some (.int x t)) c.ins F') N'
  · intro c u h tk hf hp F' N'
    obtain ⟨z1, z2, z3⟩ := sz hns hp hf
    exact done c.olds c.refs c.oldT c.r c.us c.k c.cur c.n c.ins u h tk hp z1 z2 z3 hf.rC hf.oC hf.oR hf.fR hf.fS (fr h u u c.ins F') (news_tail N')
end Mine

end
section
open PySem PySem.W PySem.Calls PyProof.Rows
set_option Elab.async false
set_option maxRecDepth 100000
set_option linter.unusedVariables false
set_option maxHeartbeats 1000000
set_option compiler.extract_closed false
namespace Mine
theorem fillK_Cn : (PySem.Challenge.rw_mq0407_01 = PySem.Challenge.rw_mq0407_01) ∧ KK = KK := by
  k_fill
  exact ⟨rfl, rfl⟩
def Stop (P : Prop) : Prop := P
theorem stop_of {P : Prop} (h : Stop P) : P := h
inductive CmAt : Int → Bool → Prop
  | mk (x : Int) (ins : Bool) : CmAt x ins
/-- the ledger within a turn -/
@[reducible] def cmL (I : Addr) (oI : Obj) (l : Addr) (vs : List Value) (C : Addr) (refs : List Value) (r : Addr) (n : Nat) (us : List Value) (k : Nat) (olds : List (Addr × Obj)) : List (Addr × Obj) :=
  (I, oI) :: (l, listOf vs.toArray 0) :: (C, listOf (refs ++ [Value.ref r]).toArray n) :: (r, listOf us.toArray k) :: olds
section
variable {w : World} {tp : Program} {loose : List Str} {mean : ExcName → Option Value} {mg mb : Str → Option Value} {base g : Heap} {outer : List Env} {s : Shared} {dp un : Nat} {gd : Option (List Code)} {R : Result → Shared → Prop} {A : Around} {E : Value → Shared → Prop}
  {h₀ : Heap} {L I l C r : Addr} {oI : Obj} {m : Str → Option Value} {vs refs us : List Value} {n k : Nat} {olds news : List (Addr × Obj)} {cur : List Str}
theorem sub_last {Q : Value → Shared → Prop} {D : Addr} {value slice : Expr} {us : List Value} {z : Value} {n : Nat} {u : Tok} (N : News h₀ L s.heap news) (hm : (D, listOf (us ++ [z]).toArray n) ∈ news) (h : Q z s)
    (hs : subscripted slice false (.ref D) (.int (-1) u) = operate [.ref D, .int (-1) u] (getItem (.ref D) (.int (-1) u)) := by with_unfolding_all rfl) (hg : ∀ r, letTemporaryGo value (.ref D) r = pure () := by intro _; with_unfolding_all rfl) :
    wpAny (model prg w) A (subscriptTail value slice (.ref D) (.int (-1) u)) Q E s := by
  refine kim_back N hm rfl rfl (by decide) ?_ (by decide) ?_ h hs hg
  · rw [List.length_append, List.length_singleton]; omega
  · have e : ((-1 : Int) + (((us ++ [z]).length : Nat) : Int)).toNat = us.length := by
      rw [List.length_append, List.length_singleton]; omega
    rw [e]; simp
theorem set_r {Q : Unit → Shared → Prop} {us : List Value} {z v : Value} {t : Tok} (F : Fr h₀ L s.heap m) (N : News h₀ L s.heap (cmL I oI l vs C refs r n (us ++ [z]) k olds)) (h1 : @Ne Nat r I) (h2 : @Ne Nat r l) (h3 : @Ne Nat r C) (h4 : ∀ p ∈ olds, @Ne Nat p.1 r)
    (h : ∀ h', Fr h₀ L h' m → News h₀ L h' (cmL I oI l vs C refs r n (us ++ [v]) k olds) → Q () { s with heap := h' }) : wpAny (model prg w) A (setItem (.ref r) (.int (-1) t) v) Q E s :=
  set_last F N (.tail (Ne.symm h1) (.tail (Ne.symm h2) (.tail (Ne.symm h3) (.head h4)))) h
theorem app_r {Q : Value → Shared → Prop} {v : Value} (F : Fr h₀ L s.heap m) (N : News h₀ L s.heap (cmL I oI l vs C refs r n us k olds)) (h1 : @Ne Nat r I) (h2 : @Ne Nat r l) (h3 : @Ne Nat r C) (h4 : ∀ p ∈ olds, @Ne Nat p.1 r) (hsz : us.length ≤ 16)
    (h : ∀ h', Fr h₀ L h' m → News h₀ L h' (cmL I oI l vs C refs r n (us ++ [v]) (k + 1) olds) → Q .none { s with heap := h' }) : wpAny (model prg w) A (call (.builtin "list.append") [.ref r, v]) Q E s := by
  refine append_K F N (.tail (Ne.symm h1) (.tail (Ne.symm h2) (.tail (Ne.symm h3) (.head h4)))) (fun h' F' N' => h h' F' ?_) (by simp only [List.size_toArray]; exact Nat.le_trans hsz (by decide))
  rw [List.push_toArray] at N'
  exact N'
theorem app_C {Q : Value → Shared → Prop} {v : Value} {p : Addr × Obj} (F : Fr h₀ L s.heap m) (N : News h₀ L s.heap (p :: cmL I oI l vs C refs r n us k olds)) (h0 : @Ne Nat p.1 C) (h1 : @Ne Nat C I) (h2 : @Ne Nat C l) (h3 : @Ne Nat r C) (h4 : ∀ p ∈ olds, @Ne Nat p.1 C) (hsz : refs.length ≤ 16)
    (h : ∀ h', Fr h₀ L h' m → News h₀ L h' (p :: (I, oI) :: (l, listOf vs.toArray 0) :: (C, listOf ((refs ++ [Value.ref r]) ++ [v]).toArray (n + 1)) :: (r, listOf us.toArray k) :: olds) → Q .none { s with heap := h' }) : wpAny (model prg w) A (call (.builtin "list.append") [.ref C, v]) Q E s := by
  refine append_K F N (.tail h0 (.tail (Ne.symm h1) (.tail (Ne.symm h2) (.head (fun q hq => ?_))))) (fun h' F' N' => h h' F' ?_) (by simp only [List.size_toArray, List.length_append, List.length_singleton]; exact Nat.le_trans (Nat.succ_le_succ hsz) (by decide))
  · rcases List.mem_cons.mp hq with rfl | hq
    · exact h3
    · exact h4 q hq
  · rw [List.push_toArray] at N'
    exact N'
theorem set_r2 {Q : Unit → Shared → Prop} {us : List Value} {z v : Value} {t : Tok} (F : Fr h₀ L s.heap m) (N : News h₀ L s.heap ((C, listOf (refs ++ [Value.ref r]).toArray n) :: (r, listOf (us ++ [z]).toArray k) :: olds)) (h3 : @Ne Nat r C) (h4 : ∀ p ∈ olds, @Ne Nat p.1 r)
    (h : ∀ h', Fr h₀ L h' m → News h₀ L h' ((C, listOf (refs ++ [Value.ref r]).toArray n) :: (r, listOf (us ++ [v]).toArray k) :: olds) → Q () { s with heap := h' }) : wpAny (model prg w) A (setItem (.ref r) (.int (-1) t) v) Q E s :=
  set_last F N (.tail (Ne.symm h3) (.head h4)) h
theorem allLt_mem {d : Nat} : ∀ {l : List (Addr × Obj)}, AllLt d l → ∀ p ∈ l, @LT.lt Nat _ p.1 d
  | [], _, _, h => nomatch h
  | _ :: _, ⟨a, b⟩, p, h => by
    rcases List.mem_cons.mp h with rfl | h
    · exact a
    · exact allLt_mem b p h
theorem quo_str : Str.ofString "\"" = ⟨#[34]⟩ := rfl
theorem close_f {oldT : List (List Str)} {cur : List Str} : cur = closeC ⟨oldT, cur, false⟩ := rfl
theorem close_f2 {oldT : List (List Str)} {cur : List Str} {ins : Bool} (h : ¬ ins = true) : cur = closeC ⟨oldT, cur, ins⟩ := by
  unfold closeC; rw [if_neg h]
theorem close_f3 {oldT : List (List Str)} {cur : List Str} {ins : Bool} (h : ins = false) : cur = closeC ⟨oldT, cur, ins⟩ := by
  subst h; rfl
theorem close_t {oldT : List (List Str)} {ws : List Str} {z : Str} : ws ++ [z ++ Str.ofString "\""] = closeC ⟨oldT, ws ++ [z], true⟩ := by
  unfold closeC
  rw [if_pos rfl, addL_snoc, quo_str]
theorem close_t2 {oldT : List (List Str)} {ws : List Str} {z : Str} {ins : Bool} (h : ins = true) : ws ++ [z ++ Str.ofString "\""] = closeC ⟨oldT, ws ++ [z], ins⟩ := by
  subst h; exact close_t
section
variable {l' : Addr} {h' : Heap} {tk : Nat} {m' m₀ : Str → Option Value} {us' : List Value} {ws' : List Str} {k' n' : Nat} {pre : List Int} {x : Int} {oldT : List (List Str)} {ins : Bool} {s₁ : Shared}
theorem cm_e1 (F : Fr h₀ L h' m') (N : News h₀ L h' ((l', listOf ([] : List Value).toArray 0) :: (I, oI) :: (l, listOf vs.toArray 0) :: (C, listOf ((refs ++ [Value.ref r]) ++ [Value.ref l']).toArray n') :: (r, listOf us'.toArray k') :: olds))
    (hl : @LT.lt Nat _ I l' ∧ @LT.lt Nat _ l l' ∧ @LT.lt Nat _ C l' ∧ @LT.lt Nat _ r l' ∧ AllLt l' olds) (hP : crun pre = ⟨oldT, cur, ins⟩) (hk : x.fmod 16 = 0) (hS : StrsAre us' ws') (hc : ws' = closeC ⟨oldT, cur, ins⟩) (hR : RefsAre olds refs oldT)
    (hrC : @Ne Nat r C) (hoC : ∀ p ∈ olds, @Ne Nat p.1 C) (hoI : ∀ p ∈ olds, @Ne Nat p.1 I) (hCI : @Ne Nat C I) (hrI : @Ne Nat r I)
    (hin : m' (Str.ofString "inside") = some (.bool false)) (hr : ∀ z, z ≠ Str.ofString "x" → z ≠ Str.ofString "inside" → z ≠ Str.ofString "kind" → z ≠ Str.ofString "sign" → m' z = m₀ z) :
    CmEnd l C h₀ L I oI (l, listOf vs.toArray 0) m₀ (CmP (pre ++ [x])) s₁ { s₁ with heap := h', toks := tk } := by
  obtain ⟨a1, a2, a3, a4, a5⟩ := hl
  have a6 := allLt_mem a5
  refine cm_end (olds := (r, listOf us'.toArray k') :: olds) (refs := refs ++ [Value.ref r]) (oldT := oldT ++ [ws']) (r := l') (us := []) (k := 0) (cur := []) (n := n') (ins := false) F N ?_ ?_ ⟨Nat.ne_of_gt a2, RefsAre.snoc (.head _) hS (hR.mono fun p hp => .tail _ hp), .nil, Nat.ne_of_gt a3, ?_, ?_⟩ hin hr ?_
  · intro p hp
    simp only [List.mem_cons] at hp ⊢
    rcases hp with rfl | rfl | rfl | rfl | rfl | hp <;> simp [*]
  · intro p hp
    rcases List.mem_cons.mp hp with rfl | hp
    · exact hCI
    · rcases List.mem_cons.mp hp with rfl | hp
      · exact Nat.ne_of_gt a1
      · rcases List.mem_cons.mp hp with rfl | hp
        · exact hrI
        · exact hoI p hp
  · intro p hp
    rcases List.mem_cons.mp hp with rfl | hp
    · exact hrC
    · exact hoC p hp
  · intro p hp
    rcases List.mem_cons.mp hp with rfl | hp
    · exact Nat.ne_of_lt a4
    · exact Nat.ne_of_lt (a6 p hp)
  · show crun (pre ++ [x]) = _
    rw [fmod16] at hk
    rw [crun_snoc, hP]
    unfold cstep
    rw [if_pos hk, hc]
theorem cm_keep {us2 : List Value} {cur2 : List Str} {ins2 : Bool} (F : Fr h₀ L h' m') (N : News h₀ L h' news) (hs : ∀ p ∈ cmL I oI l vs C refs r n us2 k olds, p ∈ news) (hS : StrsAre us2 cur2) (hR : RefsAre olds refs oldT) (hcs : cstep ⟨oldT, cur, ins⟩ x = ⟨oldT, cur2, ins2⟩) (hP : crun pre = ⟨oldT, cur, ins⟩)
    (hrl : @Ne Nat r l) (hrC : @Ne Nat r C) (hoC : ∀ p ∈ olds, @Ne Nat p.1 C) (hor : ∀ p ∈ olds, @Ne Nat p.1 r) (hoI : ∀ p ∈ olds, @Ne Nat p.1 I) (hCI : @Ne Nat C I) (hrI : @Ne Nat r I)
    (hin : m' (Str.ofString "inside") = some (.bool ins2)) (hr : ∀ z, z ≠ Str.ofString "x" → z ≠ Str.ofString "inside" → z ≠ Str.ofString "kind" → z ≠ Str.ofString "sign" → m' z = m₀ z) :
    CmEnd l C h₀ L I oI (l, listOf vs.toArray 0) m₀ (CmP (pre ++ [x])) s₁ { s₁ with heap := h', toks := tk } := by
  refine cm_end (oldT := oldT) (cur := cur2) (ins := ins2) F N hs ?_ ⟨hrl, hR, hS, hrC, hoC, hor⟩ hin hr ?_
  · intro p hp
    rcases List.mem_cons.mp hp with rfl | hp
    · exact hCI
    · rcases List.mem_cons.mp hp with rfl | hp
      · exact hrI
      · exact hoI p hp
  · show crun (pre ++ [x]) = _
    rw [crun_snoc, hP, hcs]
theorem cs_new (h0 : x.fmod 16 ≠ 0) (h : x.fmod 16 < 3 ∨ x.fmod 16 = 15) : cstep ⟨oldT, cur, ins⟩ x = ⟨oldT, cur ++ [Str.ofString ""], ins⟩ := by
  rw [fmod16] at h0 h
  unfold cstep
  rw [if_neg h0, if_pos h]
theorem cs_add {ws2 : List Str} {z : Str} (e : ws2 ++ [z] = (if cur = [] then [Str.ofString ""] else cur)) (h0 : x.fmod 16 ≠ 0) (h : ¬ (x.fmod 16 < 3 ∨ x.fmod 16 = 15)) : cstep ⟨oldT, cur, ins⟩ x = ⟨oldT, ws2 ++ [z ++ ⟨#[signOf x ins]⟩], insideOf x ins⟩ := by
  rw [fmod16] at h0 h
  unfold cstep
  rw [if_neg h0, if_neg h]
  dsimp only
  rw [← e, addL_snoc]
theorem zA_le {ws2 : List Str} {z : Str} (hz : ∀ z ∈ cur, z.length ≤ 100) (e : ws2 ++ [z] = (if cur = [] then [Str.ofString ""] else cur)) : z.length ≤ 100 := by
  have hm : z ∈ ws2 ++ [z] := List.mem_append_right _ (.head _)
  rw [e] at hm
  split at hm
  · rw [List.mem_singleton.mp hm]; decide
  · exact hz z hm
theorem sg5 (h : x.fmod 16 < 5) : Str.ofString "'" = ⟨#[signOf x ins]⟩ := by
  rw [fmod16] at h
  unfold signOf
  rw [if_pos h]; rfl
theorem sg7 (h5 : ¬ x.fmod 16 < 5) (h : x.fmod 16 < 7) : Str.ofString "\"" = ⟨#[signOf x ins]⟩ := by
  rw [fmod16] at h h5
  unfold signOf
  rw [if_neg h5, if_pos h]; rfl
theorem sg9t (hi : ins = true) (h7 : ¬ x.fmod 16 < 7) (h : x.fmod 16 < 9) : Str.ofString "," = ⟨#[signOf x ins]⟩ := by
  rw [fmod16] at h h7
  unfold signOf
  rw [if_neg (by omega), if_neg h7, if_pos h, if_pos hi]; rfl
theorem sg9f (hi : ¬ ins = true) (h7 : ¬ x.fmod 16 < 7) (h : x.fmod 16 < 9) : Str.ofString "\\" = ⟨#[signOf x ins]⟩ := by
  rw [fmod16] at h h7
  unfold signOf
  rw [if_neg (by omega), if_neg h7, if_pos h, if_neg hi]; rfl
theorem in5 (h : x.fmod 16 < 5 ∨ ¬ x.fmod 16 < 7) : insideOf x ins = ins := by
  rw [fmod16] at h
  unfold insideOf
  rw [if_neg (by omega)]
theorem in7 (h5 : ¬ x.fmod 16 < 5) (h : x.fmod 16 < 7) : insideOf x ins = !ins := by
  rw [fmod16] at h h5
  unfold insideOf
  rw [if_pos (by omega)]
theorem sg14 (h9 : ¬ x.fmod 16 < 9) (h : x.fmod 16 < 14) : signOf x ins = [32, 10, 35, [97, 122, 55].getD (x / 16 % 3).toNat 90, [95, 64, 37, 43, 61, 58, 46, 47, 45].getD (x / 16 % 9).toNat 90].getD (x.fmod 16 - 9).toNat 0 := by
  rw [fmod16] at h h9 ⊢
  unfold signOf
  rw [if_neg (by omega), if_neg (by omega), if_neg h9]
  generalize kindI x = j at h h9
  obtain ⟨n, rfl⟩ : ∃ n : Nat, j = 9 + (n : Int) := ⟨(j - 9).toNat, by omega⟩
  have e : (9 + (n : Int) - 9).toNat = n := by omega
  rw [e]
  have hn : n < 5 := by omega
  match n, hn with
  | 0, _ | 1, _ | 2, _ | 3, _ | 4, _ => rfl
theorem sg15 (h14 : ¬ x.fmod 16 < 14) (h : x.fmod 16 ≠ 15) : signOf x ins = if (x / 16 % 55296).toNat = 34 ∨ (x / 16 % 55296).toNat = 92 ∨ (x / 16 % 55296).toNat = 44 then 90 else (x / 16 % 55296).toNat := by
  rw [fmod16] at h h14
  have : kindI x < 16 := Int.emod_lt_of_pos _ (by decide)
  unfold signOf
  rw [if_neg (by omega), if_neg (by omega), if_neg (by omega), if_neg (by omega), if_neg (by omega), if_neg (by omega), if_neg (by omega), if_neg (by omega)]
end
/-- `if commands[-1] == []: commands[-1].append('')` -/
def CutA (h₀ : Heap) (L I : Addr) (oI : Obj) (l : Addr) (vs : List Value) (C : Addr) (refs : List Value) (r : Addr) (n : Nat) (olds : List (Addr × Obj)) (cur : List Str) (m : Str → Option Value) (s : Shared) (f : Flow) (s' : Shared) : Prop :=
  f = .next ∧ ∃ us2 ws2 z t k2 h tk, s' = { s with heap := h, toks := tk } ∧ Fr h₀ L h m ∧ News h₀ L h (cmL I oI l vs C refs r n (us2 ++ [Value.str z t]) k2 olds) ∧ StrsAre us2 ws2 ∧ ws2 ++ [z] = (if cur = [] then [Str.ofString ""] else cur)
theorem cutA_at {S : Stmt} {env : Env} {Q : Flow → Shared → Prop} (F : Fr h₀ L s.heap m) (N : News h₀ L s.heap (cmL I oI l vs C refs r n us k olds)) (hS : StrsAre us cur)
    (h1 : wpAny (model prg w) A (exec S env) (CutA h₀ L I oI l vs C refs r n olds cur m s) E s)
    (h2 : ∀ us2 ws2 z t k2 h tk, Fr h₀ L h m → News h₀ L h (cmL I oI l vs C refs r n (us2 ++ [Value.str z t]) k2 olds) → StrsAre us2 ws2 → ws2 ++ [z] = (if cur = [] then [Str.ofString ""] else cur) → Q .next { s with heap := h, toks := tk }) :
    wpAny (model prg w) A (exec S env) Q E s := by
  refine wpAny_mono h1 (fun f s' h => ?_) fun _ _ z => z
  obtain ⟨rfl, us2, ws2, z, t, k2, h', tk', rfl, F', N', hS', e⟩ := h
  exact h2 us2 ws2 z t k2 h' tk' F' N' hS' e
theorem cutA_new {h' : Heap} {tk : Nat} {t : Tok} (F : Fr h₀ L h' m) (N : News h₀ L h' news) (hs : ∀ p ∈ cmL I oI l vs C refs r n (us ++ [Value.str (Str.ofString "") t]) k olds, p ∈ news) (hS : StrsAre us cur) (hu : us = []) : CutA h₀ L I oI l vs C refs r n olds cur m s .next { s with heap := h', toks := tk } := by
  subst hu
  cases hS
  exact ⟨rfl, [], [], _, t, k, h', tk, rfl, F, sub_app N hs, .nil, rfl⟩
theorem cutA_old {h' : Heap} {tk : Nat} (F : Fr h₀ L h' m) (N : News h₀ L h' news) (hs : ∀ p ∈ cmL I oI l vs C refs r n us k olds, p ∈ news) (hS : StrsAre us cur) (hu : us ≠ []) : CutA h₀ L I oI l vs C refs r n olds cur m s .next { s with heap := h', toks := tk } := by
  obtain ⟨us', ws', z, t, rfl, rfl, hS'⟩ := strs_snoc hS hu
  exact ⟨rfl, us', ws', z, t, k, h', tk, rfl, F, sub_app N hs, hS', (if_neg (by simp)).symm⟩
/-- the sign told -/
def CutB (h₀ : Heap) (L : Addr) (led : List (Addr × Obj)) (x : Int) (ins : Bool) (m : Str → Option Value) (s : Shared) (f : Flow) (s' : Shared) : Prop :=
  f = .next ∧ ∃ t h tk m', s' = { s with heap := h, toks := tk } ∧ Fr h₀ L h m' ∧ News h₀ L h led ∧ m' (Str.ofString "sign") = some (.str ⟨#[signOf x ins]⟩ t) ∧ m' (Str.ofString "inside") = some (.bool (insideOf x ins)) ∧ ∀ z, z ≠ Str.ofString "sign" → z ≠ Str.ofString "inside" → m' z = m z
theorem cutB_at {S : Stmt} {env : Env} {Q : Flow → Shared → Prop} {led : List (Addr × Obj)} {x : Int} {ins : Bool} (_hx : CmAt x ins) (F : Fr h₀ L s.heap m) (N : News h₀ L s.heap led)
    (h1 : wpAny (model prg w) A (exec S env) (CutB h₀ L led x ins m s) E s)
    (h2 : ∀ t h tk, Fr h₀ L h (fun z => if z = Str.ofString "sign" then some (.str ⟨#[signOf x ins]⟩ t) else if z = Str.ofString "inside" then some (.bool (insideOf x ins)) else m z) → News h₀ L h led → Q .next { s with heap := h, toks := tk }) :
    wpAny (model prg w) A (exec S env) Q E s := by
  refine wpAny_mono h1 (fun f s' h => ?_) fun _ _ z => z
  obtain ⟨rfl, t, h', tk', m', rfl, F', N', e1, e2, e3⟩ := h
  refine h2 t h' tk' ?_ N'
  have e : (fun z => if z = Str.ofString "sign" then some (Value.str ⟨#[signOf x ins]⟩ t) else if z = Str.ofString "inside" then some (.bool (insideOf x ins)) else m z) = m' := by
    funext z
    by_cases a : z = Str.ofString "sign"
    · rw [if_pos a, a, e1]
    · rw [if_neg a]
      by_cases b : z = Str.ofString "inside"
      · rw [if_pos b, b, e2]
      · rw [if_neg b, e3 z a b]
  rw [e]; exact F'
theorem str_item {X : Str} {lst : List Nat} (hl : X.cps = lst.toArray) {i : Int} (h0 : 0 ≤ i) (h1 : i < lst.length) : Txt.item X i = ⟨#[lst.getD i.toNat 90]⟩ := by
  have hz : X.length = lst.length := by show X.cps.size = _; rw [hl]; simp
  show (⟨#[(Txt.charAt X i).getD 0]⟩ : Str) = _
  unfold Txt.charAt seqIndex?
  rw [hl, hz]
  obtain ⟨n, rfl⟩ := Int.eq_ofNat_of_zero_le h0
  have hn : n < lst.length := by omega
  have e : ¬ ((n : Int) < 0) := by omega
  simp [e, hn]
theorem pick_tail {Q : Value → Shared → Prop} {value slice : Expr} {X : Str} {lst : List Nat} {i : Int} {t u : Tok} (hl : X.cps = lst.toArray) (h0 : 0 ≤ i) (h1 : i < lst.length) (h63 : lst.length ≤ 20) (hq : ∀ tk t', Q (.str ⟨#[lst.getD i.toNat 90]⟩ t') { s with toks := tk })
    (hs : subscripted slice false (.str X t) (.int i u) = operate [.str X t, .int i u] (getItem (.str X t) (.int i u))) (ht : ∀ r, letTemporaryGo value (.str X t) r = pure ()) :
    wpAny (model prg w) A (subscriptTail value slice (.str X t) (.int i u)) Q E s := by
  have hz : X.length = lst.length := by show X.cps.size = _; rw [hl]; simp
  refine tail_of_ItemOn (SBL.item (by omega) (by rw [hz]; omega) (by rw [hz]; omega) fun _ => ?_) hs ht
  rw [str_item hl h0 h1]
  exact hq _ _
theorem fdfm {x : Int} {k : Int} (hk : 0 ≤ k) : (x.fdiv 16).fmod k = x / 16 % k := by
  rw [Int.fdiv_eq_ediv_of_nonneg _ (by decide), Int.fmod_eq_emod_of_nonneg _ hk]
theorem az_tail {Q : Value → Shared → Prop} {value slice : Expr} {x : Int} {t u : Tok} (hq : ∀ tk t', Q (.str ⟨#[[97, 122, 55].getD (x / 16 % 3).toNat 90]⟩ t') { s with toks := tk })
    (hs : ∀ i, subscripted slice false (.str (Str.ofString "az7") t) (.int i u) = operate [.str (Str.ofString "az7") t, .int i u] (getItem (.str (Str.ofString "az7") t) (.int i u)) := by intro _; with_unfolding_all rfl) (ht : ∀ r, letTemporaryGo value (.str (Str.ofString "az7") t) r = pure () := by intro _; with_unfolding_all rfl) :
    wpAny (model prg w) A (subscriptTail value slice (.str (Str.ofString "az7") t) (.int ((x.fdiv 16).fmod 3) u)) Q E s := by
  rw [fdfm (by decide)]
  exact pick_tail (lst := [97, 122, 55]) rfl (Int.emod_nonneg _ (by decide)) (Int.emod_lt_of_pos _ (by decide)) (by decide) hq (hs _) ht
theorem sy_tail {Q : Value → Shared → Prop} {value slice : Expr} {x : Int} {t u : Tok} (hq : ∀ tk t', Q (.str ⟨#[[95, 64, 37, 43, 61, 58, 46, 47, 45].getD (x / 16 % 9).toNat 90]⟩ t') { s with toks := tk })
    (hs : ∀ i, subscripted slice false (.str (Str.ofString "_@%+=:./-") t) (.int i u) = operate [.str (Str.ofString "_@%+=:./-") t, .int i u] (getItem (.str (Str.ofString "_@%+=:./-") t) (.int i u)) := by intro _; with_unfolding_all rfl) (ht : ∀ r, letTemporaryGo value (.str (Str.ofString "_@%+=:./-") t) r = pure () := by intro _; with_unfolding_all rfl) :
    wpAny (model prg w) A (subscriptTail value slice (.str (Str.ofString "_@%+=:./-") t) (.int ((x.fdiv 16).fmod 9) u)) Q E s := by
  rw [fdfm (by decide)]
  exact pick_tail (lst := [95, 64, 37, 43, 61, 58, 46, 47, 45]) rfl (Int.emod_nonneg _ (by decide)) (Int.emod_lt_of_pos _ (by decide)) (by decide) hq (hs _) ht
theorem az_tail2 {Q : Value → Shared → Prop} {value slice : Expr} {x i : Int} {X : Str} {t u : Tok} (hX : X = Str.ofString "az7") (hi : i = (x.fdiv 16).fmod 3) (hq : ∀ tk t', Q (.str ⟨#[[97, 122, 55].getD (x / 16 % 3).toNat 90]⟩ t') { s with toks := tk })
    (hs : ∀ i, subscripted slice false (.str X t) (.int i u) = operate [.str X t, .int i u] (getItem (.str X t) (.int i u))) (ht : ∀ r, letTemporaryGo value (.str X t) r = pure ()) :
    wpAny (model prg w) A (subscriptTail value slice (.str X t) (.int i u)) Q E s := by
  subst hX; subst hi; exact az_tail hq hs ht
theorem sy_tail2 {Q : Value → Shared → Prop} {value slice : Expr} {x i : Int} {X : Str} {t u : Tok} (hX : X = Str.ofString "_@%+=:./-") (hi : i = (x.fdiv 16).fmod 9) (hq : ∀ tk t', Q (.str ⟨#[[95, 64, 37, 43, 61, 58, 46, 47, 45].getD (x / 16 % 9).toNat 90]⟩ t') { s with toks := tk })
    (hs : ∀ i, subscripted slice false (.str X t) (.int i u) = operate [.str X t, .int i u] (getItem (.str X t) (.int i u))) (ht : ∀ r, letTemporaryGo value (.str X t) r = pure ()) :
    wpAny (model prg w) A (subscriptTail value slice (.str X t) (.int i u)) Q E s := by
  subst hX; subst hi; exact sy_tail hq hs ht
theorem menu_tail {Q : Value → Shared → Prop} {value slice : Expr} {x : Int} {D : Addr} {nn : Nat} {t0 t1 t2 t3 t4 u : Tok} {ins : Bool} (_hx : CmAt x ins) (N : News h₀ L s.heap news)
    (hm : (D, listOf [Value.str (Str.ofString " ") t0, .str (Str.ofString "\n") t1, .str (Str.ofString "#") t2, .str ⟨#[[97, 122, 55].getD (x / 16 % 3).toNat 90]⟩ t3, .str ⟨#[[95, 64, 37, 43, 61, 58, 46, 47, 45].getD (x / 16 % 9).toNat 90]⟩ t4].toArray nn) ∈ news)
    (h9 : ¬ x.fmod 16 < 9) (h14 : x.fmod 16 < 14) (hq : ∀ t, Q (.str ⟨#[signOf x ins]⟩ t) s)
    (hs : ∀ i, subscripted slice false (.ref D) (.int i u) = operate [.ref D, .int i u] (getItem (.ref D) (.int i u)) := by intro _; with_unfolding_all rfl) (hg : ∀ r, letTemporaryGo value (.ref D) r = pure () := by intro _; with_unfolding_all rfl) :
    wpAny (model prg w) A (subscriptTail value slice (.ref D) (.int (x.fmod 16 - 9) u)) Q E s := by
  have e := sg14 (ins := ins) h9 h14
  generalize x.fmod 16 = j at h9 h14 e hm
  obtain ⟨n, rfl⟩ : ∃ n : Nat, j = 9 + (n : Int) := ⟨(j - 9).toNat, by omega⟩
  have e1 : (9 + (n : Int) - 9) = (n : Int) := by omega
  rw [e1] at e ⊢
  have hn : n < 5 := by omega
  rw [Int.toNat_natCast] at e
  match n, hn with
  | 0, _ => exact kim_list N hm rfl rfl (by decide) (by decide) rfl (by rw [show (Str.ofString " " : Str) = ⟨#[32]⟩ from rfl]; have := hq t0; rw [e] at this; exact this) (hs _) hg
  | 1, _ => exact kim_list N hm rfl rfl (by decide) (by decide) rfl (by rw [show (Str.ofString "\n" : Str) = ⟨#[10]⟩ from rfl]; have := hq t1; rw [e] at this; exact this) (hs _) hg
  | 2, _ => exact kim_list N hm rfl rfl (by decide) (by decide) rfl (by rw [show (Str.ofString "#" : Str) = ⟨#[35]⟩ from rfl]; have := hq t2; rw [e] at this; exact this) (hs _) hg
  | 3, _ => exact kim_list N hm rfl rfl (by decide) (by decide) rfl (by have := hq t3; rw [e] at this; exact this) (hs _) hg
  | 4, _ => exact kim_list N hm rfl rfl (by decide) (by decide) rfl (by have := hq t4; rw [e] at this; exact this) (hs _) hg
theorem in_sg {Q : Value → Shared → Prop} {c : Nat} {t u : Tok} (h1 : (c = 34 ∨ c = 92 ∨ c = 44) → Q (.bool true) s) (h2 : ¬ (c = 34 ∨ c = 92 ∨ c = 44) → Q (.bool false) s) : wpAny (model prg w) A (compareOp .In (.str ⟨#[c]⟩ u) (.str (Str.ofString "\"\\,") t)) Q E s := by
  have e : decide (c ∈ (Str.ofString "\"\\,").cps.toList) = decide (c = 34 ∨ c = 92 ∨ c = 44) := by
    rw [show (Str.ofString "\"\\,").cps.toList = [34, 92, 44] from rfl]; simp
  refine in_one _ e ?_
  by_cases h : c = 34 ∨ c = 92 ∨ c = 44
  · rw [decide_eq_true h]; exact h1 h
  · rw [decide_eq_false h]; exact h2 h
theorem cutB_end {led : List (Addr × Obj)} {x : Int} {ins b : Bool} {m' : Str → Option Value} {y : Str} {t : Tok} {h' : Heap} {tk : Nat} (F : Fr h₀ L h' m') (N : News h₀ L h' news) (hs : ∀ p ∈ led, p ∈ news) (h1 : m' (Str.ofString "sign") = some (.str y t)) (hy : y = ⟨#[signOf x ins]⟩) (h2 : m' (Str.ofString "inside") = some (.bool b)) (hb : insideOf x ins = b)
    (h3 : ∀ z, z ≠ Str.ofString "sign" → z ≠ Str.ofString "inside" → m' z = m z) : CutB h₀ L led x ins m s .next { s with heap := h', toks := tk } :=
  ⟨rfl, t, h', tk, m', rfl, F, sub_app N hs, hy ▸ h1, hb ▸ h2, h3⟩
theorem sg15z {x : Int} {ins : Bool} (h14 : ¬ x.fmod 16 < 14) (h : x.fmod 16 ≠ 15) (hc : (x / 16 % 55296).toNat = 34 ∨ (x / 16 % 55296).toNat = 92 ∨ (x / 16 % 55296).toNat = 44) : Str.ofString "Z" = ⟨#[signOf x ins]⟩ := by
  rw [sg15 h14 h, if_pos hc]; rfl
theorem sg15c {x : Int} {ins : Bool} (h14 : ¬ x.fmod 16 < 14) (h : x.fmod 16 ≠ 15) (hc : ¬ ((x / 16 % 55296).toNat = 34 ∨ (x / 16 % 55296).toNat = 92 ∨ (x / 16 % 55296).toNat = 44)) : (⟨#[(x / 16 % 55296).toNat]⟩ : Str) = ⟨#[signOf x ins]⟩ := by
  rw [sg15 h14 h, if_neg hc]
theorem sg15z2 {x : Int} {ins : Bool} (h14 : ¬ x.fmod 16 < 14) (h : x.fmod 16 ≠ 15) (hc : ((x.fdiv 16).fmod 55296).toNat = 34 ∨ ((x.fdiv 16).fmod 55296).toNat = 92 ∨ ((x.fdiv 16).fmod 55296).toNat = 44) : Str.ofString "Z" = ⟨#[signOf x ins]⟩ := by
  rw [fdfm (by decide)] at hc; exact sg15z h14 h hc
theorem sg15c2 {x : Int} {ins : Bool} (h14 : ¬ x.fmod 16 < 14) (h : x.fmod 16 ≠ 15) (hc : ¬ (((x.fdiv 16).fmod 55296).toNat = 34 ∨ ((x.fdiv 16).fmod 55296).toNat = 92 ∨ ((x.fdiv 16).fmod 55296).toNat = 44)) : (⟨#[((x.fdiv 16).fmod 55296).toNat]⟩ : Str) = ⟨#[signOf x ins]⟩ := by
  rw [fdfm (by decide)] at hc ⊢; exact sg15c h14 h hc
local macro_rules | `(tactic| k_room) => `(tactic| ((try simp only [depth_under_make, depth_under_kw, depth_in1, depth_deeper, depth_caller]); (try dsimp only [Around.deeper, Around.under, Around.in1]); first | exact room0 (by assumption) | exact room1 (by assumption) rfl | exact room2 (by assumption) rfl | omega))
local macro_rules | `(tactic| walk_at "exec For") => `(tactic| (k_dflt (refine' For_invV _ ?c ?cl ?_ ?fo ?E; (case c => exact rfl); (case cl => exact rfl); (case fo => (intro _; rfl)); (case E => passes_own))))
local macro_rules | `(tactic| walk_at "exec If") => `(tactic| refine wpAny_If ?_)
local macro_rules | `(tactic| walk_at "execs cons") => `(tactic| ((with_reducible refine wpAny_execs_cons ?_); try dsimp only))
local macro_rules | `(tactic| walk_at "pyIter ref") => `(tactic| (refine' cm_loop (env := envOf _ _ _ _ _) ?hh ?F ?N ?rC ?Cl ?hin ?hi ?hns ?_ ?_; (case hh => exact rfl); (case F => assumption); (case N => first | assumption | exact sub_app (by assumption) (sub_cons (by k_mem) (sub_cons (by k_mem) (sub_cons (by k_mem) sub_nil)))); (case hin => exact rfl); (case rC => omega); (case Cl => omega); (case hi => assumption); (case hns => omega); (all_goals first | (intro olds9 refs9 oldT9 r9 us9 k9 cur9 n9 ins9 pre9 x9 t9 u9 h9 tk9 I9 oI9 hP9 hl9 hus9 hrf9 hz9 hrl9 hrC9 hoC9 hor9 hoI9 hCI9 hrI9 hR9 hS9 F9 N9; (have hX9 := CmAt.mk x9 ins9); (have hMk9 := kstMark)) | skip); (all_goals first | (intro olds9 refs9 oldT9 r9 us9 k9 cur9 n9 ins9 u9 h9 tk9 hP9 hus9 hrf9 hz9 hrC9 hoC9 hor9 hR9 hS9 F9 N9) | skip)))
theorem us_snoc {pre : List Int} {oldT : List (List Str)} {cur : List Str} {ins : Bool} {us : List Value} (hP : crun pre = ⟨oldT, cur, ins⟩) (hi : ins = true) (hS : StrsAre us cur) : ∃ us' ws' z t, us = us' ++ [.str z t] ∧ cur = ws' ++ [z] ∧ StrsAre us' ws' := by
  subst hi
  refine strs_snoc hS fun e => ins_ne hP ?_
  subst e
  cases hS
  rfl
local macro_rules | `(tactic| walk_at "subscriptTail Name UnaryOp ref int") => `(tactic| (k_dflt (refine sub_last (by assumption) (by k_mem) ?_)))
local macro_rules | `(tactic| walk_at "call builtin:list.append") => `(tactic| first
  | (refine' app_C ?F ?N ?h0 ?h1 ?h2 ?h3 ?h4 ?hz ?_; (case F => assumption); (case N => assumption); (case h0 => (show @Ne Nat _ _; omega)); (case h1 => assumption); (case h2 => (show @Ne Nat _ _; omega)); (case h3 => assumption); (case h4 => assumption); (case hz => assumption); intro h8 F8 N8)
  | (refine' app_r ?F ?N ?h1 ?h2 ?h3 ?h4 ?hz ?_; (case F => assumption); (case N => first | assumption | exact sub_app (by assumption) (fun p hp => List.mem_cons_of_mem _ hp)); (case h1 => assumption); (case h2 => assumption); (case h3 => assumption); (case h4 => assumption); (case hz => assumption); intro h8 F8 N8))
local macro_rules | `(tactic| walk_at "getItem ref int") => `(tactic| first
  | (refine get_last (by assumption) (by k_mem) ?_)
  | ((rename StrsAre _ _ => hS8); (rename crun _ = _ => hP8); (have hx8 := us_snoc hP8 (by assumption) hS8); (obtain ⟨us8, ws8, z8, tz8, e18, e28, hT8⟩ := hx8); subst e18; subst e28; clear hS8; (rename (∀ z ∈ _ ++ _, Str.length z ≤ 100) => hz8); (have hz7 := hz8 _ (List.mem_append_right _ (List.Mem.head _))); refine get_last (by assumption) (by k_mem) ?_))
local macro_rules | `(tactic| walk_at "setItem ref int") => `(tactic| first
  | (refine' set_r2 ?F ?N ?h3 ?h4 ?_; (case F => assumption); (case N => assumption); (case h3 => assumption); (case h4 => assumption); intro h8 F8 N8)
  | (refine' set_r ?F ?N ?h1 ?h2 ?h3 ?h4 ?_; (case F => assumption); (case N => first | assumption | exact sub_app (by assumption) (fun p hp => List.mem_cons_of_mem _ hp)); (case h1 => assumption); (case h2 => assumption); (case h3 => assumption); (case h4 => assumption); intro h8 F8 N8))
local macro_rules | `(tactic| walk_at "compareOp Eq ref ref") => `(tactic| (refine' eq_w ?F ?N ?h1 ?h2 ?hu ?_ ?_; (case F => assumption); (case N => assumption); (case h1 => exact .head _); (case h2 => k_mem); (case hu => k_room); (all_goals first | intro hx8 | skip)))
local macro_rules | `(tactic| walk_at "CmPost") => `(tactic| dsimp only [CmPost])
local macro_rules | `(tactic| walk_at "CmEnd") => `(tactic| first
  | (refine' cm_e1 ?F ?N ?l ?P ?k ?S ?c ?R ?a1 ?a2 ?a3 ?a4 ?a5 ?i ?r; (case F => assumption); (case N => assumption); (case l => assumption); (case P => assumption); (case k => assumption); (case S => first | assumption | exact StrsAre.append' (by assumption) (.cons _ _ .nil)); (case c => first | exact close_f2 (by assumption) | exact close_f3 (by assumption) | exact close_t2 (by assumption)); (case R => assumption); (case a1 => assumption); (case a2 => assumption); (case a3 => assumption); (case a4 => assumption); (case a5 => assumption); (case i => exact rfl); (case r => (intro z e1 e2 e3 e4; (simp only [e1, e2, e3, e4, if_false]); (try rfl))))
  | (refine' cm_keep ?F ?N ?s ?S ?R ?c ?P ?a0 ?a1 ?a2 ?a3 ?a4 ?a5 ?a6 ?i ?r; (case F => assumption); (case N => assumption); (case s => exact fun _ h => h); (case i => exact rfl); (case S => exact StrsAre.append' (by assumption) (.cons _ _ .nil)); (case R => assumption); (case P => assumption); (case c => first | exact cs_new (by assumption) (by omega) | exact cs_add (by assumption) (by assumption) (by omega)); (case a0 => assumption); (case a1 => assumption); (case a2 => assumption); (case a3 => assumption); (case a4 => assumption); (case a5 => assumption); (case a6 => assumption); (case r => (intro z e1 e2 e3 e4; (simp only [e1, e2, e3, e4, if_false]); (try rfl)))))
local macro_rules | `(tactic| walk_at "exec If") => `(tactic| ((with_reducible show wpAny _ _ (exec (Stmt.If (Expr.Compare (Expr.Subscript _ _ _) [CmpOp.Eq] _ _) _ _ _) _) _ _ _); (fail_if_success (with_reducible show wpAny _ _ _ (CutA _ _ _ _ _ _ _ _ _ _ _ _ _ _) _ _)); k_dflt (refine' cutA_at ?F ?N ?S ?_ ?_; (case F => assumption); (case N => assumption); (case S => assumption)); (all_goals first | (intro us7 ws7 z7 t7 k7 h7 tk7 F7 N7 hS7 e7; (have hz7 := zA_le (by assumption) e7)) | skip)))
local macro_rules | `(tactic| walk_at "exec If") => `(tactic| ((with_reducible show wpAny _ _ (exec (Stmt.If (Expr.Compare (Expr.Name _ _) [CmpOp.Lt] [Expr.Constant (Const.int 5) _ _] _) _ _ _) _) _ _ _); (fail_if_success (with_reducible show wpAny _ _ _ (CutB _ _ _ _ _ _ _) _ _)); k_dflt (refine' cutB_at ?x ?F ?N ?_ ?_; (case x => assumption); (case F => assumption); (case N => assumption)); (all_goals first | (intro t7 h7 tk7 F7 N7) | skip)))
local macro_rules | `(tactic| walk_at "CutA") => `(tactic| first
  | (refine' cutA_new ?F ?N ?s ?S ?u; (case F => assumption); (case N => assumption); (case s => exact fun _ h => h); (case S => assumption); (case u => assumption))
  | (refine' cutA_old ?F ?N ?s ?S ?u; (case F => assumption); (case N => assumption); (case S => assumption); (case u => assumption); (case s => first | exact fun _ h => h | exact fun p hp => List.mem_cons_of_mem _ hp)))
local macro_rules | `(tactic| walk_at "CutB") => `(tactic| (refine' cutB_end ?F ?N ?s ?a ?y ?b ?bb ?r; (case F => assumption); (case N => assumption); (case s => first | exact fun _ h => h | exact fun p hp => List.mem_cons_of_mem _ hp); (case a => exact rfl); (case b => exact rfl); (case bb => first | exact in5 (by omega) | exact in7 (by omega) (by omega)); (case y => first | exact sg5 (by omega) | exact sg7 (by omega) (by omega) | exact sg9t (by assumption) (by omega) (by omega) | exact sg9f (by first | assumption | simp_all) (by omega) (by omega) | exact rfl | exact sg15z2 (by omega) (by assumption) (by assumption) | exact sg15c2 (by omega) (by assumption) (by assumption)); (case r => (intro z e1 e2; (simp only [e1, e2, if_false]); (try rfl)))))
local macro_rules | `(tactic| walk_at "subscriptTail Constant str") => `(tactic| (k_dflt (refine' az_tail2 ?X ?i ?q ?hs ?ht; (case X => with_reducible exact rfl); (case i => exact rfl); (case hs => (intro _; rfl)); (case ht => (intro _; rfl))); intro k8 t8))
local macro_rules | `(tactic| walk_at "subscriptTail Constant str") => `(tactic| (k_dflt (refine' sy_tail2 ?Xs ?is ?qs ?hss ?hts; (case Xs => with_reducible exact rfl); (case is => exact rfl); (case hss => (intro _; rfl)); (case hts => (intro _; rfl))); intro k8 t8))
local macro_rules | `(tactic| walk_at "subscriptTail Name BinOp") => `(tactic| ((with_reducible show wpAny _ _ (subscriptTail _ _ (Value.ref _) (Value.int _ _)) _ _ _); k_dflt (refine' menu_tail ?x ?N ?m ?a ?b ?q ?hs ?hg; (case x => assumption); (case N => assumption); (case m => exact List.Mem.head _); (case a => omega); (case b => omega); (case hs => (intro _; rfl)); (case hg => (intro _; rfl))); intro t8))
local macro_rules | `(tactic| walk_at "subscriptTail List") => `(tactic| k_dflt (refine kba_turn (value' := PySem.Expr.Name (PySem.Str.ofString "_") ⟨0, 0, 0, 0⟩) (fun _ => rfl) ?_))
local macro_rules | `(tactic| walk_at "compareOp In str str") => `(tactic| (refine in_sg ?_ ?_ <;> intro hc8))
theorem fin_refs {ns : List Int} {oldT : List (List Str)} {cur ws' : List Str} {ins : Bool} {us' : List Value} {k : Nat} (hP : crun ns = ⟨oldT, cur, ins⟩) (hS : StrsAre us' ws') (hc : ws' = closeC ⟨oldT, cur, ins⟩) (hR : RefsAre olds refs oldT) : RefsAre ((r, listOf us'.toArray k) :: olds) (refs ++ [Value.ref r]) (cmdsT ns) := by
  unfold cmdsT
  rw [hP, ← hc]
  exact RefsAre.snoc (.head _) hS (hR.mono fun p hp => .tail _ hp)
theorem fin_ne {us' : List Value} {k : Nat} (h1 : @Ne Nat r C) (h2 : ∀ p ∈ olds, @Ne Nat p.1 C) : ∀ p ∈ (r, listOf us'.toArray k) :: olds, @Ne Nat p.1 C := fun p hp => by
  rcases List.mem_cons.mp hp with rfl | hp
  · exact h1
  · exact h2 p hp
theorem cmds_c (a : Addr) (us : List Value) (n : Nat) (xs : List Int) (hr : g.get? a = some (listOf us.toArray n)) (hI : IntsAre us xs) (hlen : xs.length ≤ 63)
    (B : Below (AA dp un gd outer) base outer g) (X : (KK w.params).In g) (T : Top tp loose mean mg mb g) (P : Pre g s.heap []) (hd : dp + 10 < recursionLimit) (hu : un + 100 < cLine)
    (h : ∀ C refs olds n h' tk', RefsAre olds refs (cmdsT (xs.take 16)) → (∀ p ∈ olds, @Ne Nat p.1 C) → Pre g h' ((C, listOf refs.toArray n) :: olds) → R (.ok (.ret (.ref C))) { s with heap := h', toks := tk' }) :
    codeAny (model prg w) (AA dp un gd outer) (.call (.ref 771) ⟨[.ref a], []⟩) R s := by
  w_on
  k_dflt (refine' enter P X T ?k6 ?k7 ?k8 ?k9 ?kB ?_ ?c5 ?c2 ?c3 ?c4; (case k6 => k_is); (case k7 => k_is); (case k8 => first | exact room0 (by assumption) | omega); (case k9 => first | exact BindsTo.of_eq rfl | exact binds_K (Frag.In.keeps X (Pre.keep P)) rfl (by k_is) rfl rfl rfl); (case c5 => decide); (case kB => exact locs rfl); (case c2 => exact rfl); (case c3 => exact rfl); (case c4 => exact rfl))
  intro L' h₁ F N hlt
  (try dsimp only)
  (try k_fold)
  have hIs : g.IsList a us.toArray := ⟨_, hr, rfl, _, rfl⟩
  w_strict k_steps
  all_goals (try dsimp only)
  all_goals (try k_unfold)
  all_goals (try dsimp only)
  · refine' h _ _ _ _ _ _ (fin_refs ?hP ?hS ?hc ?hR) (fin_ne ?h1 ?h2) (Pre.of_fr ?hF ?hN (fun _ z => z))
    case hN => assumption
    case hF => assumption
    case hP => assumption
    case hS => exact StrsAre.append' (by assumption) (.cons _ _ .nil)
    case hc => exact close_t2 (by assumption)
    case hR => assumption
    case h1 => assumption
    case h2 => assumption
  · refine' h _ _ _ _ _ _ (fin_refs ?hP2 ?hS2 ?hc2 ?hR2) (fin_ne ?h12 ?h22) (Pre.of_fr ?hF2 ?hN2 (fun _ z => z))
    case hN2 => assumption
    case hF2 => assumption
    case hP2 => assumption
    case hS2 => assumption
    case hc2 => first | exact close_f2 (by assumption) | exact close_f3 (by assumption)
    case hR2 => assumption
    case h12 => assumption
    case h22 => assumption
end
end Mine

end
section
open PySem PySem.W PySem.Calls PyProof.Rows
set_option Elab.async false
set_option maxRecDepth 100000
set_option linter.unusedVariables false
set_option maxHeartbeats 400000
namespace Mine
theorem fillK_Zy : (PySem.Challenge.rw_mq0407_01 = PySem.Challenge.rw_mq0407_01) ∧ KK = KK := by
  k_fill
  exact ⟨rfl, rfl⟩
def whlB : Option Stmt → List Stmt
  | some (.While _ b _ _) => b
  | _ => []
@[reducible] noncomputable def turnB : List Stmt := by
  refine (?f : ((whlB (nthS readTokB 2)).drop 3 = ?x) → List Stmt) ?h
  case h => (conv => lhs; whnf)
  case f => exact fun _ => ?x
section
variable (w : World) (A : Around) (E : Value → Shared → Prop) (env : Env)
/-- an expression gives a value of V, C kept -/
structure HE (C : Heap → Prop) (e : Expr) (V : Value → Prop) : Prop where
  run : ∀ (s : Shared) (Q : Value → Shared → Prop), C s.heap → (∀ u h' tk', V u → C h' → Q u { s with heap := h', toks := tk' }) → wpAny (model prg w) A (eval e env) Q E s
/-- a test comes out as b, C kept -/
structure HB (C : Heap → Prop) (e : Expr) (b : Bool) : Prop where
  run : ∀ (s : Shared) (Q : Bool → Shared → Prop), C s.heap → (∀ h' tk', C h' → Q b { s with heap := h', toks := tk' }) → wpAny (model prg w) A (isTrue e env (eval e env)) Q E s
structure HL (C : Heap → Prop) (op : BoolOp) (l : List Expr) (p : Pos) (b : Bool) : Prop where
  run : ∀ (whole : Sem Value) (s : Shared) (Q : Bool → Shared → Prop), C s.heap → (∀ h' tk', C h' → Q b { s with heap := h', toks := tk' }) → wpAny (model prg w) A (isTrue (.BoolOp op l p) env whole) Q E s
/-- statements, from C to R -/
structure HSq (C : Heap → Prop) (l : List Stmt) (R : Flow → Heap → Prop) : Prop where
  run : ∀ (s : Shared) (Q : Flow → Shared → Prop), C s.heap → (∀ f h' tk', R f h' → Q f { s with heap := h', toks := tk' }) → wpAny (model prg w) A (execs l env) Q E s
structure Cmp (op : CmpOp) (V1 V2 : Value → Prop) (b : Bool) : Prop where
  run : ∀ (s : Shared) (Q : Value → Shared → Prop) u1 u2, V1 u1 → V2 u2 → (∀ tk, Q (.bool b) { s with toks := tk }) → wpAny (model prg w) A (compareOp op u1 u2) Q E s
structure Tru (V : Value → Prop) (b : Bool) : Prop where
  run : ∀ (s : Shared) (Q : Bool → Shared → Prop) u, V u → (∀ tk, Q b { s with toks := tk }) → wpAny (model prg w) A (truthy u) Q E s
end
def VS (x : Str) (u : Value) : Prop := ∃ t, u = .str x t
structure TCh (w : World) (g : Heap) (L : Addr) (m : Str → Option Value) (a d : Addr) (es : List DictEntry) (rest : List (Addr × Obj)) (h : Heap) : Prop where
  F : Fr g L h m
  N : News g L h ((a, instObj 732 d) :: (d, dictOf es 19) :: rest)
def OwnN (P : Params) (n : Str) : Prop := plainGet (KK P) 732 n = true ∧ hasDictIn (KK P) 732 = true ∧ findIn (KK P) (.ref 732) n = some none
theorem own_state (P) : OwnN P (Str.ofString "state") := ⟨by k_is, by k_is, by k_is⟩
theorem own_posix (P) : OwnN P (Str.ofString "posix") := ⟨by k_is, by k_is, by k_is⟩
theorem own_quotes (P) : OwnN P (Str.ofString "quotes") := ⟨by k_is, by k_is, by k_is⟩
theorem own_escape (P) : OwnN P (Str.ofString "escape") := ⟨by k_is, by k_is, by k_is⟩
theorem own_escapedquotes (P) : OwnN P (Str.ofString "escapedquotes") := ⟨by k_is, by k_is, by k_is⟩
theorem own_whitespace (P) : OwnN P (Str.ofString "whitespace") := ⟨by k_is, by k_is, by k_is⟩
theorem own_commenters (P) : OwnN P (Str.ofString "commenters") := ⟨by k_is, by k_is, by k_is⟩
theorem own_wordchars (P) : OwnN P (Str.ofString "wordchars") := ⟨by k_is, by k_is, by k_is⟩
theorem own_split (P) : OwnN P (Str.ofString "whitespace_split") := ⟨by k_is, by k_is, by k_is⟩
theorem own_token (P) : OwnN P (Str.ofString "token") := ⟨by k_is, by k_is, by k_is⟩
theorem own_debug (P) : OwnN P (Str.ofString "debug") := ⟨by k_is, by k_is, by k_is⟩
section
variable {w : World} {A : Around} {E : Value → Shared → Prop} {env : Env} {C : Heap → Prop}
theorem HB_cmp {l r : Expr} {op : CmpOp} {p : Pos} {V1 V2 : Value → Prop} {b : Bool} (h1 : HE w A E env C l V1) (h2 : HE w A E env C r V2) (hc : Cmp w A E op V1 V2 b) (hm : behindInMarks op r = false := by with_unfolding_all rfl) : HB w A E env C (.Compare l [op] [r] p) b :=
  .mk fun s Q c h => wpAny_isTrue_Compare1 (h1.run s _ c fun u1 h' t1 v1 c1 => h2.run _ _ c1 fun u2 h'' t2 v2 c2 => hc.run _ _ u1 u2 v1 v2 fun tk => wpAny_truthy_bool (h h'' tk c2)) hm
theorem HB_attr {o : Expr} {n : Str} {p : Pos} {V : Value → Prop} {b : Bool} (h1 : HE w A E env C (.Attribute o n p) V) (ht : Tru w A E V b) : HB w A E env C (.Attribute o n p) b :=
  .mk fun s Q c h => isTrue_plain (h1.run s _ c fun u h' t1 v c' => ht.run _ _ u v fun tk => h h' tk c')
theorem HB_name {n : Str} {p : Pos} {V : Value → Prop} {b : Bool} (h1 : HE w A E env C (.Name n p) V) (ht : Tru w A E V b) : HB w A E env C (.Name n p) b :=
  .mk fun s Q c h => isTrue_plain (h1.run s _ c fun u h' t1 v c' => ht.run _ _ u v fun tk => h h' tk c')
theorem HB_not {e : Expr} {p : Pos} {b : Bool} (h1 : HB w A E env C e b) : HB w A E env C (.UnaryOp .Not e p) (!b) :=
  .mk fun s Q c h => isTrue_not (h1.run s _ c fun h' tk c' => h h' tk c')
theorem HB_list {op : BoolOp} {l : List Expr} {p : Pos} {b : Bool} (h1 : HL w A E env C op l p b) : HB w A E env C (.BoolOp op l p) b := .mk fun s Q c h => h1.run _ s Q c h
theorem HL_and_f {e : Expr} {l : List Expr} {p : Pos} (h1 : HB w A E env C e false) : HL w A E env C .And (e :: l) p false :=
  .mk fun _ s Q c h => isTrue_and (h1.run s _ c fun h' tk c' => by rw [if_neg (by decide)]; exact h h' tk c')
theorem HL_and_t {e : Expr} {l : List Expr} {p : Pos} {b : Bool} (h1 : HB w A E env C e true) (h2 : HL w A E env C .And l p b) : HL w A E env C .And (e :: l) p b :=
  .mk fun wh s Q c h => isTrue_and (h1.run s _ c fun h' tk c' => by rw [if_pos rfl]; exact h2.run wh _ _ c' h)
theorem HL_and_nil {p : Pos} : HL w A E env C .And [] p true := .mk fun _ s Q c h => isTrue_and_nil (h s.heap s.toks c)
theorem HL_or_t {e : Expr} {l : List Expr} {p : Pos} (h1 : HB w A E env C e true) : HL w A E env C .Or (e :: l) p true :=
  .mk fun _ s Q c h => isTrue_or (h1.run s _ c fun h' tk c' => by rw [if_pos rfl]; exact h h' tk c')
theorem HL_or_f {e : Expr} {l : List Expr} {p : Pos} {b : Bool} (h1 : HB w A E env C e false) (h2 : HL w A E env C .Or l p b) : HL w A E env C .Or (e :: l) p b :=
  .mk fun wh s Q c h => isTrue_or (h1.run s _ c fun h' tk c' => by rw [if_neg (by decide)]; exact h2.run wh _ _ c' h)
theorem HL_or_nil {p : Pos} : HL w A E env C .Or [] p false := .mk fun _ s Q c h => isTrue_or_nil (h s.heap s.toks c)
theorem execs_one {st : Stmt} {Q : Flow → Shared → Prop} {s : Shared} (h : wpAny (model prg w) A (exec st env) Q E s) : wpAny (model prg w) A (execs [st] env) Q E s :=
  wpAny_execs_cons (wpAny_mono h (fun f s' q => by cases f <;> first | exact wpAny_execs_nil q | exact q) fun _ _ z => z)
theorem HS_if {t : Expr} {b : Bool} {body orelse : List Stmt} {p : Pos} {R : Flow → Heap → Prop} (h1 : HB w A E env C t b) (h2 : HSq w A E env C (if b then body else orelse) R) : HSq w A E env C [.If t body orelse p] R :=
  .mk fun s Q c h => execs_one (wpAny_If (h1.run s _ c fun h' tk c' => by
    cases b
    · exact h2.run _ _ c' h
    · exact h2.run _ _ c' h))
theorem HS_t {t : Expr} {body orelse : List Stmt} {p : Pos} {R : Flow → Heap → Prop} (h1 : HB w A E env C t true) (h2 : HSq w A E env C body R) : HSq w A E env C [.If t body orelse p] R := HS_if h1 h2
theorem HS_f {t : Expr} {body orelse : List Stmt} {p : Pos} {R : Flow → Heap → Prop} (h1 : HB w A E env C t false) (h2 : HSq w A E env C orelse R) : HSq w A E env C [.If t body orelse p] R := HS_if h1 h2
theorem HS_skip {t : Expr} {body rest : List Stmt} {p : Pos} {R : Flow → Heap → Prop} (h1 : HB w A E env C t false) (h2 : HSq w A E env C rest R) : HSq w A E env C (.If t body [] p :: rest) R :=
  .mk fun s Q c h => wpAny_execs_cons (wpAny_If (h1.run s _ c fun h' tk c' => by
    rw [if_neg (by decide)]
    exact wpAny_execs_nil (h2.run _ _ c' h)))
theorem HS_nil {R : Flow → Heap → Prop} (h1 : ∀ h, C h → R .next h) : HSq w A E env C [] R := .mk fun s Q c h => wpAny_execs_nil (h _ s.heap s.toks (h1 _ c))
theorem HS_brk {rest : List Stmt} {p : Pos} {R : Flow → Heap → Prop} (h1 : ∀ h, C h → R .brk h) : HSq w A E env C (.Break p :: rest) R := .mk fun s Q c h => wpAny_execs_cons (wpAny_Break (h _ s.heap s.toks (h1 _ c)))
theorem HS_cont {rest : List Stmt} {p : Pos} {R : Flow → Heap → Prop} (h1 : ∀ h, C h → R .cont h) : HSq w A E env C (.Continue p :: rest) R := .mk fun s Q c h => wpAny_execs_cons (wpAny_Continue (h _ s.heap s.toks (h1 _ c)))
theorem HE_str {x : Str} {k : Nat} {p : Pos} : HE w A E env C (.Constant (.str x) k p) (VS x) := .mk fun s Q c h => Constant_str (h _ s.heap _ ⟨_, rfl⟩ c)
theorem HE_none {k : Nat} {p : Pos} : HE w A E env C (.Constant .none k p) (fun u => u = .none) := .mk fun s Q c h => wpAny_Constant_none (h _ s.heap s.toks rfl c)
theorem HE_int {i : Int} {k : Nat} {p : Pos} : HE w A E env C (.Constant (.int i) k p) (fun u => ∃ t, u = .int i t) := .mk fun s Q c h => wpAny_Constant_int (h _ s.heap _ ⟨_, rfl⟩ c)
theorem HE_bool {i : Bool} {k : Nat} {p : Pos} : HE w A E env C (.Constant (.bool i) k p) (fun u => u = .bool i) := .mk fun s Q c h => wpAny_Constant_bool (h _ s.heap s.toks rfl c)
theorem Cmp_is_no {v : Value} (hv : v ≠ .none) : Cmp w A E .Is (fun u => u = v) (fun u => u = .none) false := .mk fun s Q u1 u2 e1 e2 h => by
  subst e1; subst e2; exact is_none_ne hv (h s.toks)
theorem Cmp_is_str {x : Str} : Cmp w A E .Is (VS x) (fun u => u = .none) false := .mk fun s Q u1 u2 e1 e2 h => by
  obtain ⟨t, rfl⟩ := e1; subst e2; exact is_none_ne (by intro z; cases z) (h s.toks)
theorem Cmp_is_none : Cmp w A E .Is (fun u => u = .none) (fun u => u = .none) true := .mk fun s Q u1 u2 e1 e2 h => by
  subst e1; subst e2; exact is_none_none (h s.toks)
theorem Cmp_eq {x y : Str} {b : Bool} (hb : (x == y) = b) : Cmp w A E .Eq (VS x) (VS y) b := .mk fun s Q u1 u2 e1 e2 h => by
  obtain ⟨t, rfl⟩ := e1; obtain ⟨t2, rfl⟩ := e2; exact PyProof.Rows.eq_str (hb ▸ h s.toks)
theorem Cmp_in {c : Nat} {y : Str} {b : Bool} (hb : decide (c ∈ y.cps.toList) = b) : Cmp w A E .In (VS ⟨#[c]⟩) (VS y) b := .mk fun s Q u1 u2 e1 e2 h => by
  obtain ⟨t, rfl⟩ := e1; obtain ⟨t2, rfl⟩ := e2; exact in_one b hb (h s.toks)
theorem Cmp_notin {c : Nat} {y : Str} {b : Bool} (hb : (!decide (c ∈ y.cps.toList)) = b) : Cmp w A E .NotIn (VS ⟨#[c]⟩) (VS y) b := .mk fun s Q u1 u2 e1 e2 h => by
  obtain ⟨t, rfl⟩ := e1; obtain ⟨t2, rfl⟩ := e2
  refine PyProof.Rows.notIn_str ?_
  rw [StrLaws.found_one, hb]
  exact h s.toks
theorem Cmp_ge {i j : Int} {b : Bool} (hb : decide (i ≥ j) = b) : Cmp w A E .GtE (fun u => ∃ t, u = .int i t) (fun u => ∃ t, u = .int j t) b := .mk fun s Q u1 u2 e1 e2 h => by
  obtain ⟨t, rfl⟩ := e1; obtain ⟨t2, rfl⟩ := e2; exact ge_int (hb ▸ h s.toks)
theorem Tru_bool {b : Bool} : Tru w A E (fun u => u = .bool b) b := .mk fun s Q u e h => by subst e; exact wpAny_truthy_bool (h s.toks)
theorem Tru_one {c : Nat} : Tru w A E (VS ⟨#[c]⟩) true := .mk fun s Q u e h => by obtain ⟨t, rfl⟩ := e; exact truthy_one h
theorem Tru_str {x : Str} {b : Bool} (hx : x.length ≤ 2000) (hb : ((x.length : Int) != 0) = b) : Tru w A E (VS x) b := .mk fun s Q u e h => by
  obtain ⟨t, rfl⟩ := e
  exact SBL.truthy (by omega) (hb ▸ h _)
end
section
variable {w : World} {A : Around} {E : Value → Shared → Prop} {g : Heap} {L a d f : Addr} {m : Str → Option Value} {es : List DictEntry} {rest : List (Addr × Obj)} {cn : Str} {cs : Scope} {cd : Value}
theorem HE_name {x : Str} {v : Value} {V : Value → Prop} {p : Pos} (hm : m x = some v) (hV : V v) (hk : cs.kind = .function) (hx : (envX cn cs L f cd []).kindOf x = some .local) (hd : (x == ("__debug__" : Str)) = false) :
    HE w A E (envX cn cs L f cd []) (TCh w g L m a d es rest) (.Name x p) V := .mk fun s Q c h => nameX_L c.F hm (h v s.heap s.toks hV c) hk hx hd
theorem HE_attr {n : Str} {v : Value} {V : Value → Prop} {p1 p2 : Pos} (X : (KK w.params).In g) (hs : m (Str.ofString "self") = some (.ref a)) (ho : OwnN w.params n) (hl : getL n es = some (some v)) (hv : handedIn v = true) (hV : V v)
    (hk : cs.kind = .function) (hx : (envX cn cs L f cd []).kindOf (Str.ofString "self") = some .local) :
    HE w A E (envX cn cs L f cd []) (TCh w g L m a d es rest) (.Attribute (.Name (Str.ofString "self") p1) n p2) V := .mk fun s Q c h =>
  Attribute_Name_ (nameX_L c.F hs (get_own c.F X (InstAt.of_news c.N (.head _) (.tail _ (.head _))) ho.1 ho.2.1 ho.2.2 rfl hl hv (h v s.heap _ hV c)) hk hx (by decide))
theorem HE_attrS {n : Str} {x : Str} {t : Tok} {p1 p2 : Pos} (X : (KK w.params).In g) (hs : m (Str.ofString "self") = some (.ref a)) (ho : OwnN w.params n) (hl : getL n es = some (some (.str x t)))
    (hk : cs.kind = .function) (hx : (envX cn cs L f cd []).kindOf (Str.ofString "self") = some .local) :
    HE w A E (envX cn cs L f cd []) (TCh w g L m a d es rest) (.Attribute (.Name (Str.ofString "self") p1) n p2) (VS x) := HE_attr X hs ho hl rfl ⟨_, rfl⟩ hk hx
theorem HE_attrB {n : Str} {b : Bool} {p1 p2 : Pos} (X : (KK w.params).In g) (hs : m (Str.ofString "self") = some (.ref a)) (ho : OwnN w.params n) (hl : getL n es = some (some (.bool b)))
    (hk : cs.kind = .function) (hx : (envX cn cs L f cd []).kindOf (Str.ofString "self") = some .local) :
    HE w A E (envX cn cs L f cd []) (TCh w g L m a d es rest) (.Attribute (.Name (Str.ofString "self") p1) n p2) (fun u => u = .bool b) := HE_attr X hs ho hl rfl rfl hk hx
theorem HE_attrN {n : Str}  {p1 p2 : Pos} (X : (KK w.params).In g) (hs : m (Str.ofString "self") = some (.ref a)) (ho : OwnN w.params n) (hl : getL n es = some (some (.none)))
    (hk : cs.kind = .function) (hx : (envX cn cs L f cd []).kindOf (Str.ofString "self") = some .local) :
    HE w A E (envX cn cs L f cd []) (TCh w g L m a d es rest) (.Attribute (.Name (Str.ofString "self") p1) n p2) (fun u => u = .none) := HE_attr X hs ho hl rfl rfl hk hx
theorem HE_attrI {n : Str} {i : Int} {t : Tok} {p1 p2 : Pos} (X : (KK w.params).In g) (hs : m (Str.ofString "self") = some (.ref a)) (ho : OwnN w.params n) (hl : getL n es = some (some (.int i t)))
    (hk : cs.kind = .function) (hx : (envX cn cs L f cd []).kindOf (Str.ofString "self") = some .local) :
    HE w A E (envX cn cs L f cd []) (TCh w g L m a d es rest) (.Attribute (.Name (Str.ofString "self") p1) n p2) (fun u => ∃ t, u = .int i t) := HE_attr X hs ho hl rfl ⟨_, rfl⟩ hk hx
theorem HE_nameS {n : Str} {x : Str} {t : Tok} {p : Pos} (hm : m n = some (.str x t)) (hk : cs.kind = .function) (hx : (envX cn cs L f cd []).kindOf n = some .local) (hd : (n == ("__debug__" : Str)) = false) :
    HE w A E (envX cn cs L f cd []) (TCh w g L m a d es rest) (.Name n p) (VS x) := HE_name hm ⟨_, rfl⟩ hk hx hd
theorem HE_nameB {n : Str} {b : Bool} {p : Pos} (hm : m n = some (.bool b)) (hk : cs.kind = .function) (hx : (envX cn cs L f cd []).kindOf n = some .local) (hd : (n == ("__debug__" : Str)) = false) :
    HE w A E (envX cn cs L f cd []) (TCh w g L m a d es rest) (.Name n p) (fun u => u = .bool b) := HE_name hm rfl hk hx hd
theorem HE_nameN {n : Str}  {p : Pos} (hm : m n = some (.none)) (hk : cs.kind = .function) (hx : (envX cn cs L f cd []).kindOf n = some .local) (hd : (n == ("__debug__" : Str)) = false) :
    HE w A E (envX cn cs L f cd []) (TCh w g L m a d es rest) (.Name n p) (fun u => u = .none) := HE_name hm rfl hk hx hd
theorem HE_nameI {n : Str} {i : Int} {t : Tok} {p : Pos} (hm : m n = some (.int i t)) (hk : cs.kind = .function) (hx : (envX cn cs L f cd []).kindOf n = some .local) (hd : (n == ("__debug__" : Str)) = false) :
    HE w A E (envX cn cs L f cd []) (TCh w g L m a d es rest) (.Name n p) (fun u => ∃ t, u = .int i t) := HE_name hm ⟨_, rfl⟩ hk hx hd
theorem set_facts (P) : findIn (KK P) (.ref 732) "__setattr__" = some (some (.builtin "object.__setattr__")) ∧ plainOver (KK P) 732 = true ∧ hasDictIn (KK P) 732 = true := ⟨by k_is, by k_is, by k_is⟩
theorem tak_state (P) : takerIn (KK P) 732 (Str.ofString "state") = some none := by k_is
theorem tak_token (P) : takerIn (KK P) 732 (Str.ofString "token") = some none := by k_is
theorem set_own {n : Str} {v : Value} {es' : List DictEntry} {Q : Unit → Shared → Prop} {s : Shared} (X : (KK w.params).In g) (c : TCh w g L m a d es rest s.heap) (had : @Ne Nat a d) (hrs : ∀ p ∈ rest, p.1 ≠ d) (ht : takerIn (KK w.params) 732 n = some none)
    (hl : (getL n es).isSome = true) (hp : ∀ hs key, (putL n hs key v es, putN n es 19) = (es', 19)) (hz : es'.length ≤ 1000) (h : ∀ h' tk, TCh w g L m a d es' rest h' → Q () { s with heap := h', toks := tk }) :
    wpAny (model prg w) A (setAttr (.ref a) n v) Q E s :=
  set_dict c.F X c.N (InstAt.of_news c.N (.head _) (.tail _ (.head _))) rfl (set_facts _).1 (set_facts _).2.1 ht (set_facts _).2.2 hl (hp _ _) (.tail had (.head hrs)) hz fun h' F N => h h' _ ⟨F, N⟩
theorem HS_set {n : Str} {V : Value → Prop} {es' : Value → List DictEntry} {p1 p2 p : Pos} {value : Expr} {r : List Stmt} {R : Flow → Heap → Prop} (X : (KK w.params).In g) (hs : m (Str.ofString "self") = some (.ref a)) (had : @Ne Nat a d) (hrs : ∀ p ∈ rest, p.1 ≠ d) (ht : takerIn (KK w.params) 732 n = some none)
    (hk : cs.kind = .function) (hx : (envX cn cs L f cd []).kindOf (Str.ofString "self") = some .local) (hl : (getL n es).isSome = true) (hp : ∀ v hs key, (putL n hs key v es, putN n es 19) = (es' v, 19)) (hz : ∀ v, (es' v).length ≤ 1000)
    (h1 : HE w A E (envX cn cs L f cd []) (TCh w g L m a d es rest) value V) (h2 : ∀ v, V v → HSq w A E (envX cn cs L f cd []) (TCh w g L m a d (es' v) rest) r R)
    (hsw : swapsWith value (some (.Attribute (.Name (Str.ofString "self") p1) n p2)) p.line (envX cn cs L f cd []) = pure false) :
    HSq w A E (envX cn cs L f cd []) (TCh w g L m a d es rest) (.Assign [.Attribute (.Name (Str.ofString "self") p1) n p2] value p :: r) R := .mk fun s Q c h =>
  wpAny_execs_cons (plainObj_wpAny_Assign_Attribute (h1.run s _ c fun u h' t1 v c' => nameX_L c'.F hs (set_own X c' had hrs ht hl (hp u) (hz u) fun h'' tk c'' => (h2 u v).run _ _ c'' h) hk hx (by decide)) hsw)
theorem HS_let {x : Str} {v : Value} {p1 p : Pos} {value : Expr} {r : List Stmt} {R : Flow → Heap → Prop} (hk : cs.kind = .function) (hx : (envX cn cs L f cd []).kindOf x = some .local)
    (h1 : HE w A E (envX cn cs L f cd []) (TCh w g L m a d es rest) value (fun u => u = v)) (h2 : HSq w A E (envX cn cs L f cd []) (TCh w g L (fun z => if z = x then some v else m z) a d es rest) r R)
    (hsw : swapsWith value (some (.Name x p1)) p.line (envX cn cs L f cd []) = pure false) :
    HSq w A E (envX cn cs L f cd []) (TCh w g L m a d es rest) (.Assign [.Name x p1] value p :: r) R := .mk fun s Q c h =>
  wpAny_execs_cons (wpAny_Assign_Name (h1.run s _ c fun u h' t1 e c' => by
    subst e
    exact storeX_L c'.F c'.N (fun h'' F N => h2.run _ _ ⟨F, N⟩ h) hk hx) hsw)
theorem HS_aug {n : Str} {x y : Str} {t : Tok} {es' : Value → List DictEntry} {p1 p2 p : Pos} {value : Expr} {r : List Stmt} {R : Flow → Heap → Prop} (X : (KK w.params).In g) (hs : m (Str.ofString "self") = some (.ref a)) (had : @Ne Nat a d) (hrs : ∀ p ∈ rest, p.1 ≠ d) (ht : takerIn (KK w.params) 732 n = some none)
    (ho : OwnN w.params n) (hl : getL n es = some (some (.str x t))) (hk : cs.kind = .function) (hx : (envX cn cs L f cd []).kindOf (Str.ofString "self") = some .local) (hp : ∀ v hs key, (putL n hs key v es, putN n es 19) = (es' v, 19)) (hz : ∀ v, (es' v).length ≤ 1000) (hsz : x.length + y.length ≤ 3000)
    (h1 : HE w A E (envX cn cs L f cd []) (TCh w g L m a d es rest) value (VS y)) (h2 : ∀ t, HSq w A E (envX cn cs L f cd []) (TCh w g L m a d (es' (.str (x ++ y) t)) rest) r R) :
    HSq w A E (envX cn cs L f cd []) (TCh w g L m a d es rest) (.AugAssign (.Attribute (.Name (Str.ofString "self") p1) n p2) .Add value p :: r) R := .mk fun s Q c h =>
  wpAny_execs_cons (wpAny_AugAssign_AttributeAny (nameX_L c.F hs (get_own c.F X (InstAt.of_news c.N (.head _) (.tail _ (.head _))) ho.1 ho.2.1 ho.2.2 rfl hl rfl
    (h1.run _ _ c fun u h' t1 v c' => by
      obtain ⟨t2, rfl⟩ := v
      exact SBL.iadd (fun t' tk _ => set_own X c' had hrs ht (by rw [hl]; rfl) (hp _) (hz _) fun h'' tk c'' => (h2 _).run _ _ c'' h) (Nat.le_trans hsz (by decide)))) hk hx (by decide)))
end
end Mine

end
section
open PySem PySem.W PySem.Calls PyProof.Rows
set_option Elab.async false
set_option maxRecDepth 100000
set_option linter.unusedVariables false
set_option maxHeartbeats 400000
set_option compiler.extract_closed false
namespace Mine
@[reducible] noncomputable def rtEnv (L : Addr) : Env := envX (Str.ofString "shlex.read_token") readTokS L 700 (.ref 699) []
/-- what a turn brings -/
def TurnR (w : World) (g : Heap) (L : Addr) (k : ShT) (ki : SiT) (a d y e pb fs : Nat) (com : Value) (wc x : Str) (m₀ : Str → Option Value) (fin : Str × Bool × LSt × List Nat) (n0 : Nat) (f : Flow) (h' : Heap) : Prop :=
  ∃ (st : LSt) (sv : Value) (tok : Str) (tt : Tok) (q : Bool) (i : Nat) (pt : Tok) (ln : Int) (lt : Tok) (m' : Str → Option Value), Fr g L h' m' ∧ News g L h' (shF w.params k ki a d y e pb fs com wc true sv (.int ln lt) (.str tok tt) x (.int (i : Nat) pt)) ∧
    StV st sv ∧ m' (Str.ofString "quoted") = some (.bool q) ∧ (∀ z, z ≠ Str.ofString "quoted" → z ≠ Str.ofString "nextchar" → m' z = m₀ z) ∧ i ≤ x.length ∧ tok.length ≤ i ∧
    ((f = .brk ∧ fin = (tok, q, st, x.cps.toList.drop i)) ∨ ((f = .next ∨ f = .cont) ∧ lx st tok q (x.cps.toList.drop i) = some fin ∧ (st = .sp ∨ st = .nn → tok = Str.ofString "" ∧ q = false) ∧ (st = .wd → tok.length = 0 → q = true) ∧ n0 < i))
theorem turn_post {w : World} {g : Heap} {L : Addr} {k : ShT} {ki : SiT} {a d y e pb fs : Nat} {com : Value} {wc x : Str} {m₀ : Str → Option Value} {fin : Str × Bool × LSt × List Nat} {c : TS} {f : Flow} {h' : Heap} {s : Shared} {tk : Nat}
    (h : TurnR w g L k ki a d y e pb fs com wc x m₀ fin c.pos f h') :
    KswPost g L s (TLed w.params k ki a d y e pb fs com wc x) TPs (fun c => StV c.st c.sv) [Str.ofString "nextchar"] m₀ (TP x fin) (fun c => x.length - c.pos) (TokQ w.params g L s k ki a d y e pb fs com wc x m₀ fin) c f { s with heap := h', toks := tk } := by
  obtain ⟨st, sv, tok, tt, q, i, pt, ln, lt, m', F, N, h1, h2, h3, h4, h5, h6⟩ := h
  rcases h6 with ⟨rfl, h6⟩ | ⟨hf, h6, h7, h8, h9⟩
  · exact tok_brk F N (fun _ z => z) h2 h3 h1 h6 h4 h5
  · have e := tok_end (c := c) (s₁ := s) (tk := tk) F N (fun _ z => z) h2 h3 h1 h6 h4 h5 h7 h8 (by omega)
    rcases hf with rfl | rfl
    · exact e
    · exact e
theorem fillK_Zt : (PySem.Challenge.rw_mq0407_01 = PySem.Challenge.rw_mq0407_01) ∧ KK = KK := by
  k_fill
  exact ⟨rfl, rfl⟩
section
variable {w : World} {tp : Program} {loose : List Str} {mean : ExcName → Option Value} {mg mb : Str → Option Value} {base g : Heap} {outer : List Env} {s : Shared} {dp un : Nat} {gd : Option (List Code)} {E : Value → Shared → Prop}
  {L a d y : Addr} {m : Str → Option Value} {rest : List (Addr × Obj)} {k : ShT} {com : Value} {wc : Str} {sp : Bool} {pb fs : Addr} {st ln tok : Value}
@[reducible] noncomputable def rtA (dp un : Nat) (gd : Option (List Code)) (outer : List Env) (L : Addr) : Around := (AF dp un gd (some outer)).deeper (rtEnv L)
local macro_rules | `(tactic| k_room) => `(tactic| ((try simp only [depth_under_make, depth_under_kw, depth_in1, depth_deeper, depth_caller]); (try dsimp only [Around.deeper, Around.under, Around.in1]); first | exact room0 (by assumption) | exact room1 (by assumption) rfl | exact room2 (by assumption) rfl | omega))
theorem HE_punct {p1 p2 : Pos} (B : Below (AA dp un gd outer) base outer g) (X : (KK w.params).In g) (T : Top tp loose mean mg mb g) (hd : dp + 10 < recursionLimit) (hu : un + 100 < cLine) (hs : m (Str.ofString "self") = some (.ref a)) :
    HE w (rtA dp un gd outer L) E (rtEnv L) (TCh w g L m a d (shEs w.params k y com wc sp st pb ln tok fs) rest) (.Attribute (.Name (Str.ofString "self") p1) (Str.ofString "punctuation_chars") p2) (VS (Str.ofString "")) := by
  refine .mk fun s Q c h => ?_
  obtain ⟨F, N⟩ := c
  refine Attribute_Name_ (nameX_L F hs ?_ rfl rfl (by decide))
  w_on
  w_strict k_steps
  exact h _ _ _ ⟨_, rfl⟩ ⟨by assumption, by assumption⟩
theorem HB_ac {p1 p2 p3 p4 p5 p6 : Pos} {k1 k2 k3 : Nat} {t : Tok} (X : (KK w.params).In g) (T : Top tp loose mean mg mb g) (hu : un + 100 < cLine) (hs : m (Str.ofString "self") = some (.ref a)) :
    HB w (rtA dp un gd outer L) E (rtEnv L) (TCh w g L m a d (shEs w.params k y com wc sp (.str (Str.ofString "a") t) pb ln tok fs) rest)
      (.Compare (.Attribute (.Name (Str.ofString "self") p1) (Str.ofString "state") p2) [.In] [.Tuple [.Constant (.str (Str.ofString "a")) k1 p3, .Constant (.str (Str.ofString "c")) k2 p4] k3 p5] p6) true := by
  refine .mk fun s Q c h => ?_
  obtain ⟨F, N⟩ := c
  refine wpAny_isTrue_Compare1 (Attribute_Name_ (nameX_L F hs (get_own F X (InstAt.of_news N (.head _) (.tail _ (.head _))) (own_state _).1 (own_state _).2.1 (own_state _).2.2 rfl rfl rfl ?_) rfl rfl (by decide)))
  w_on
  w_strict k_steps
  exact h _ _ ⟨by assumption, sub_app (by assumption) fun p hp => .tail _ hp⟩
end
end Mine

end
section
open PySem PySem.W PySem.Calls PyProof.Rows
set_option Elab.async false
set_option maxRecDepth 100000
set_option linter.unusedVariables false
set_option maxHeartbeats 400000
set_option compiler.extract_closed false
namespace Mine
section
variable {w : World} {A : Around} {E : Value → Shared → Prop} {env : Env} {C : Heap → Prop}
theorem HB_not_t {e : Expr} {p : Pos} (h1 : HB w A E env C e false) : HB w A E env C (.UnaryOp .Not e p) true := HB_not h1
theorem HB_not_f {e : Expr} {p : Pos} (h1 : HB w A E env C e true) : HB w A E env C (.UnaryOp .Not e p) false := HB_not h1
theorem Cmp_inl {x y : Str} {c : Nat} {b : Bool} (hx : x = ⟨#[c]⟩) (hb : decide (c ∈ y.cps.toList) = b) : Cmp w A E .In (VS x) (VS y) b := by subst hx; exact Cmp_in hb
theorem Tru_nil : Tru w A E (VS (Str.ofString "")) false := Tru_str (by decide) rfl
theorem Tru_tok_f {x : Str} (hx : x = Str.ofString "") : Tru w A E (VS x) false := by subst hx; exact Tru_nil
theorem eqo {c k : Nat} {y : Str} (hy : y = ⟨#[k]⟩) {b : Bool} (hb : decide (c = k) = b) : ((⟨#[c]⟩ : Str) == y) = b := by
  subst hy
  rw [← hb, Bool.eq_iff_iff, beq_iff_eq, decide_eq_true_iff]; simp
end
section
variable {w : World} {A : Around} {E : Value → Shared → Prop} {g : Heap} {L f : Addr} {m : Str → Option Value} {rest : List (Addr × Obj)} {cn : Str} {cs : Scope} {cd : Value} {k : ShT} {a d y pb fs : Addr} {com : Value} {wc : Str} {sp : Bool} {st ln tok : Value} {r : List Stmt} {R : Flow → Heap → Prop} {V : Value → Prop} {p1 p2 p : Pos} {value : Expr}
theorem HS_state (X : (KK w.params).In g) (hs : m (Str.ofString "self") = some (.ref a)) (had : @Ne Nat a d) (hrs : ∀ p ∈ rest, p.1 ≠ d)
    (h1 : HE w A E (envX cn cs L f cd []) (TCh w g L m a d (shEs w.params k y com wc sp st pb ln tok fs) rest) value V) (h2 : ∀ v, V v → HSq w A E (envX cn cs L f cd []) (TCh w g L m a d (shEs w.params k y com wc sp v pb ln tok fs) rest) r R)
    (hk : cs.kind = .function) (hx : (envX cn cs L f cd []).kindOf (Str.ofString "self") = some .local)
    (hsw : swapsWith value (some (.Attribute (.Name (Str.ofString "self") p1) (Str.ofString "state") p2)) p.line (envX cn cs L f cd []) = pure false) :
    HSq w A E (envX cn cs L f cd []) (TCh w g L m a d (shEs w.params k y com wc sp st pb ln tok fs) rest) (.Assign [.Attribute (.Name (Str.ofString "self") p1) (Str.ofString "state") p2] value p :: r) R :=
  HS_set (es' := fun v => shEs w.params k y com wc sp v pb ln tok fs) X hs had hrs (tak_state _) hk hx (by k_get) (by intro v hs key; k_put) (fun _ => Nat.le_of_ble_eq_true rfl) h1 h2 hsw
theorem HS_token (X : (KK w.params).In g) (hs : m (Str.ofString "self") = some (.ref a)) (had : @Ne Nat a d) (hrs : ∀ p ∈ rest, p.1 ≠ d)
    (h1 : HE w A E (envX cn cs L f cd []) (TCh w g L m a d (shEs w.params k y com wc sp st pb ln tok fs) rest) value V) (h2 : ∀ v, V v → HSq w A E (envX cn cs L f cd []) (TCh w g L m a d (shEs w.params k y com wc sp st pb ln v fs) rest) r R)
    (hk : cs.kind = .function) (hx : (envX cn cs L f cd []).kindOf (Str.ofString "self") = some .local)
    (hsw : swapsWith value (some (.Attribute (.Name (Str.ofString "self") p1) (Str.ofString "token") p2)) p.line (envX cn cs L f cd []) = pure false) :
    HSq w A E (envX cn cs L f cd []) (TCh w g L m a d (shEs w.params k y com wc sp st pb ln tok fs) rest) (.Assign [.Attribute (.Name (Str.ofString "self") p1) (Str.ofString "token") p2] value p :: r) R :=
  HS_set (es' := fun v => shEs w.params k y com wc sp st pb ln v fs) X hs had hrs (tak_token _) hk hx (by k_get) (by intro v hs key; k_put) (fun _ => Nat.le_of_ble_eq_true rfl) h1 h2 hsw
theorem HS_grow {x z : Str} {t : Tok} (X : (KK w.params).In g) (hs : m (Str.ofString "self") = some (.ref a)) (had : @Ne Nat a d) (hrs : ∀ p ∈ rest, p.1 ≠ d) (hsz : x.length + z.length ≤ 3000)
    (h1 : HE w A E (envX cn cs L f cd []) (TCh w g L m a d (shEs w.params k y com wc sp st pb ln (.str x t) fs) rest) value (VS z)) (h2 : ∀ t, HSq w A E (envX cn cs L f cd []) (TCh w g L m a d (shEs w.params k y com wc sp st pb ln (.str (x ++ z) t) fs) rest) r R)
    (hk : cs.kind = .function) (hx : (envX cn cs L f cd []).kindOf (Str.ofString "self") = some .local) :
    HSq w A E (envX cn cs L f cd []) (TCh w g L m a d (shEs w.params k y com wc sp st pb ln (.str x t) fs) rest) (.AugAssign (.Attribute (.Name (Str.ofString "self") p1) (Str.ofString "token") p2) .Add value p :: r) R :=
  HS_aug (es' := fun v => shEs w.params k y com wc sp st pb ln v fs) X hs had hrs (tak_token _) (own_token _) (by k_get) hk hx (by intro v hs key; k_put) (fun _ => Nat.le_of_ble_eq_true rfl) hsz h1 h2
end
local macro_rules | `(tactic| walk_at "own") => `(tactic| first | with_reducible exact own_state _ | with_reducible exact own_posix _ | with_reducible exact own_quotes _ | with_reducible exact own_escape _ | with_reducible exact own_escapedquotes _ | with_reducible exact own_whitespace _ | with_reducible exact own_commenters _ | with_reducible exact own_wordchars _ | with_reducible exact own_split _ | with_reducible exact own_token _ | with_reducible exact own_debug _)
local macro_rules | `(tactic| walk_at "asm") => `(tactic| with_reducible assumption)
local macro_rules | `(tactic| walk_at "he") => `(tactic| first
  | with_reducible exact HE_str | with_reducible exact HE_none | with_reducible exact HE_int | with_reducible exact HE_bool
  | ((with_reducible refine' HE_nameS ?hm ?hk ?hx ?hd); (case hm => walk_at "asm"); (case hk => exact rfl); (case hx => exact rfl); (case hd => decide))
  | ((with_reducible refine' HE_nameB ?hm ?hk ?hx ?hd); (case hm => walk_at "asm"); (case hk => exact rfl); (case hx => exact rfl); (case hd => decide))
  | ((with_reducible refine' HE_nameN ?hm ?hk ?hx ?hd); (case hm => walk_at "asm"); (case hk => exact rfl); (case hx => exact rfl); (case hd => decide))
  | ((with_reducible refine' HE_attrS ?X ?hs ?ho ?hl ?hk ?hx); (case X => walk_at "asm"); (case hs => walk_at "asm"); (case ho => walk_at "own"); (case hl => k_get); (case hk => exact rfl); (case hx => exact rfl))
  | ((with_reducible refine' HE_attrB ?X ?hs ?ho ?hl ?hk ?hx); (case X => walk_at "asm"); (case hs => walk_at "asm"); (case ho => walk_at "own"); (case hl => k_get); (case hk => exact rfl); (case hx => exact rfl))
  | ((with_reducible refine' HE_attrN ?X ?hs ?ho ?hl ?hk ?hx); (case X => walk_at "asm"); (case hs => walk_at "asm"); (case ho => walk_at "own"); (case hl => k_get); (case hk => exact rfl); (case hx => exact rfl))
  | ((with_reducible refine' HE_attrI ?X ?hs ?ho ?hl ?hk ?hx); (case X => walk_at "asm"); (case hs => walk_at "asm"); (case ho => walk_at "own"); (case hl => k_get); (case hk => exact rfl); (case hx => exact rfl))
  | ((with_reducible refine' HE_punct ?B ?X ?T ?hd ?hu ?hs); (case B => walk_at "asm"); (case X => walk_at "asm"); (case T => walk_at "asm"); (case hd => omega); (case hu => omega); (case hs => walk_at "asm")))
local macro_rules | `(tactic| walk_at "hb") => `(tactic| first | with_reducible assumption | rfl | decide)
local macro_rules | `(tactic| walk_at "hc") => `(tactic| first
  | with_reducible exact Cmp_is_str | with_reducible exact Cmp_is_none
  | ((with_reducible refine Cmp_eq ?_); walk_at "hb") | ((with_reducible refine Cmp_ge ?_); walk_at "hb") | ((with_reducible refine Cmp_in ?_); walk_at "hb") | ((with_reducible refine Cmp_notin ?_); walk_at "hb")
  | ((with_reducible refine Cmp_inl lit_sp ?_); walk_at "hb") | ((with_reducible refine Cmp_inl lit_wd ?_); walk_at "hb") | ((with_reducible refine Cmp_inl lit_sq ?_); walk_at "hb") | ((with_reducible refine Cmp_inl lit_dq ?_); walk_at "hb"))
local macro_rules | `(tactic| walk_at "tr") => `(tactic| first | with_reducible exact Tru_bool | with_reducible exact Tru_one | with_reducible exact Tru_nil | ((with_reducible refine Tru_str ?_ ?_); (· omega); (· walk_at "asm")))
local macro_rules | `(tactic| walk_at "hl") => `(tactic| first
  | ((with_reducible refine HL_and_f ?_); walk_at "ht") | ((with_reducible refine HL_and_t ?_ ?_); (· walk_at "ht"); (· walk_at "hl")) | with_reducible exact HL_and_nil
  | ((with_reducible refine HL_or_t ?_); walk_at "ht") | ((with_reducible refine HL_or_f ?_ ?_); (· walk_at "ht"); (· walk_at "hl")) | with_reducible exact HL_or_nil)
local macro_rules | `(tactic| walk_at "ht") => `(tactic| first
  | ((with_reducible refine' HB_ac ?X ?T ?hu ?hs); (case X => walk_at "asm"); (case T => walk_at "asm"); (case hu => omega); (case hs => walk_at "asm"))
  | ((with_reducible refine' HB_cmp ?h1 ?h2 ?hc rfl); (case h1 => walk_at "he"); (case h2 => walk_at "he"); (case hc => walk_at "hc"))
  | ((with_reducible refine HB_list ?_); walk_at "hl") | ((with_reducible refine HB_not_t ?_); walk_at "ht") | ((with_reducible refine HB_not_f ?_); walk_at "ht")
  | ((with_reducible refine' HB_attr ?h1 ?h2); (case h1 => walk_at "he"); (case h2 => walk_at "tr"))
  | ((with_reducible refine' HB_name ?h1 ?h2); (case h1 => walk_at "he"); (case h2 => walk_at "tr")))
local macro_rules | `(tactic| walk_at "F") => `(tactic| ((with_reducible refine HS_f ?_ ?_); (· walk_at "ht"); try dsimp only))
local macro_rules | `(tactic| walk_at "T") => `(tactic| ((with_reducible refine HS_t ?_ ?_); (· walk_at "ht"); try dsimp only))
local macro_rules | `(tactic| walk_at "S") => `(tactic| ((with_reducible refine HS_skip ?_ ?_); (· walk_at "ht"); try dsimp only))
section
variable {w : World} {tp : Program} {loose : List Str} {mean : ExcName → Option Value} {mg mb : Str → Option Value} {base g : Heap} {outer : List Env} {dp un : Nat} {gd : Option (List Code)} {E : Value → Shared → Prop}
  {m m₀ : Str → Option Value}
theorem turn_eof {k : ShT} {ki : SiT} {x : Str} {L a d y e pb fs : Nat} {com pt pt' lt tn tt : Tok} {ln ln' : Int} {lt' : Tok} {wc : Str} {st : LSt} {sv : Value} {tok : Str} {q : Bool} {fin : Str × Bool × LSt × List Nat} (hT : TP x fin ⟨st, sv, tok, tt, q, pos, pt, ln, lt⟩) (hS : StV st sv) (he : pos = x.length) (hx : x.length ≤ 2000)
    (B : Below (AA dp un gd outer) base outer g) (X : (KK w.params).In g) (T : Top tp loose mean mg mb g) (hd : dp + 20 < recursionLimit) (hu : un + 200 < cLine) (l1 : d < a) (l2 : a < e) (l3 : e < y) (l4 : y < pb) (l5 : pb < fs)
    (hself : m (Str.ofString "self") = some (.ref a)) (hnext : m (Str.ofString "nextchar") = some (.str (Str.ofString "") tn)) (hquo : m (Str.ofString "quoted") = some (.bool q)) (hrest : ∀ z, z ≠ Str.ofString "quoted" → z ≠ Str.ofString "nextchar" → m z = m₀ z) :
    HSq w (rtA dp un gd outer L) E (rtEnv L) (TCh w g L m a d (shEs w.params k y (.str (Str.ofString "") com) wc true sv pb (.int ln' lt') (.str tok tt) fs) [(y, instObj 597 e), (e, dictOf (siEs w.params ki x (.int pos pt')) 3), (pb, dqObj), (fs, dqObj)]) turnB
      (TurnR w g L k ki a d y e pb fs (.str (Str.ofString "") com) wc x m₀ fin pos) := by
  have had : @Ne Nat a d := Nat.ne_of_gt l1
  have hrs : ∀ v, ∀ p ∈ [(y, instObj 597 e), (e, dictOf (siEs w.params ki x v) 3), (pb, dqObj), (fs, dqObj)], p.1 ≠ d := by
    intro v p hp
    simp only [List.mem_cons, List.not_mem_nil, or_false] at hp
    show @Ne Nat _ _
    rcases hp with rfl | rfl | rfl | rfl <;> dsimp only <;> omega
  have hpos : pos ≤ x.length := hT.2.1
  have htok : tok.length ≤ pos := hT.2.2.1
  obtain ⟨hfin, ⟨rfl, rfl, rfl⟩ | ⟨t, rfl, rfl, rfl⟩ | ⟨t, rfl⟩⟩ := eof_split hT hS he
  · walk_at "T"
    refine HS_token X hself had (hrs _) (by walk_at "he") ?_ rfl rfl rfl
    rintro v ⟨t, rfl⟩
    exact HS_brk fun h c => ⟨.nn, .none, _, t, _, pos, _, _, _, m, c.F, c.N, .nn, hquo, hrest, hpos, htok, .inl ⟨rfl, hfin⟩⟩
  · walk_at "F"
    walk_at "T"
    walk_at "T"
    refine HS_state X hself had (hrs _) (by walk_at "he") ?_ rfl rfl rfl
    rintro v rfl
    exact HS_brk fun h c => ⟨.nn, .none, _, _, _, pos, _, _, _, m, c.F, c.N, .nn, hquo, hrest, hpos, htok, .inl ⟨rfl, hfin⟩⟩
  · walk_at "F"
    walk_at "F"
    walk_at "F"
    walk_at "F"
    walk_at "T"
    walk_at "T"
    refine HS_state X hself had (hrs _) (by walk_at "he") ?_ rfl rfl rfl
    rintro v rfl
    exact HS_brk fun h c => ⟨.nn, .none, _, _, _, pos, _, _, _, m, c.F, c.N, .nn, hquo, hrest, hpos, htok, .inl ⟨rfl, hfin⟩⟩
theorem turn_chr {k : ShT} {ki : SiT} {x : Str} {L a d y e pb fs : Nat} {com pt pt' lt tn tt : Tok} {ln ln' : Int} {lt' : Tok} {wc : Str} {st : LSt} {sv : Value} {tok : Str} {q : Bool} {fin : Str × Bool × LSt × List Nat} {c : Nat} (hT : TP x fin ⟨st, sv, tok, tt, q, pos, pt, ln, lt⟩) (hS : StV st sv) (he : x.cps.toList.drop pos = c :: x.cps.toList.drop (pos + 1)) (hp : pos < x.length) (hx : x.length ≤ 2000) (hwc : WcOk wc)
    (B : Below (AA dp un gd outer) base outer g) (X : (KK w.params).In g) (T : Top tp loose mean mg mb g) (hd : dp + 20 < recursionLimit) (hu : un + 200 < cLine) (l1 : d < a) (l2 : a < e) (l3 : e < y) (l4 : y < pb) (l5 : pb < fs)
    (hself : m (Str.ofString "self") = some (.ref a)) (hnext : m (Str.ofString "nextchar") = some (.str ⟨#[c]⟩ tn)) (hquo : m (Str.ofString "quoted") = some (.bool q)) (hrest : ∀ z, z ≠ Str.ofString "quoted" → z ≠ Str.ofString "nextchar" → m z = m₀ z) :
    HSq w (rtA dp un gd outer L) E (rtEnv L) (TCh w g L m a d (shEs w.params k y (.str (Str.ofString "") com) wc true sv pb (.int ln' lt') (.str tok tt) fs) [(y, instObj 597 e), (e, dictOf (siEs w.params ki x (.int (pos + 1 : Nat) pt')) 3), (pb, dqObj), (fs, dqObj)]) turnB
      (TurnR w g L k ki a d y e pb fs (.str (Str.ofString "") com) wc x m₀ fin pos) := by
  have had : @Ne Nat a d := Nat.ne_of_gt l1
  have hrs : ∀ v, ∀ p ∈ [(y, instObj 597 e), (e, dictOf (siEs w.params ki x v) 3), (pb, dqObj), (fs, dqObj)], p.1 ≠ d := by
    intro v p hp
    simp only [List.mem_cons, List.not_mem_nil, or_false] at hp
    show @Ne Nat _ _
    rcases hp with rfl | rfl | rfl | rfl <;> dsimp only <;> omega
  have htok : tok.length ≤ pos := hT.2.2.1
  have hwd := hT.2.2.2.2
  obtain ⟨hwl, hw39, hw34⟩ := hwc
  have hi : pos + 1 ≤ x.length := hp
  have ht1 : tok.length ≤ pos + 1 := Nat.le_succ_of_le htok
  have hin : ∀ c : Nat, decide (c ∈ (Str.ofString "").cps.toList) = false := fun c => by rw [show (Str.ofString "").cps.toList = [] from rfl]; simp
  have hws := mem_ws c
  have hes : decide (c ∈ (Str.ofString "\\").cps.toList) = decide (c = 92) := by rw [show (Str.ofString "\\").cps.toList = [92] from rfl]; simp
  have hqu := mem_quo c
  have hin0 := hin c
  have hin1 : (!decide (c ∈ (Str.ofString "").cps.toList)) = true := by rw [hin0]; rfl
  have e39 := eqo (c := c) lit_sq rfl
  have e34 := eqo (c := c) lit_dq rfl
  have len1 : (⟨#[c]⟩ : Str).length = 1 := rfl
  rcases chr_split hT hS he with ⟨t, rfl, rfl, rfl, h4, h5⟩ | ⟨t, rfl, rfl, rfl, h4, h5⟩ | ⟨t, rfl, rfl, rfl, h4, h5⟩ | ⟨t, rfl, rfl, rfl, h4, h5, h6, h7, h8⟩ | ⟨t, rfl, h2, h3, h4⟩ | ⟨t, rfl, h2, h3⟩ | ⟨t, rfl, h2, h3⟩ | ⟨t, rfl, h2, h3, h4, h5, h6⟩ | ⟨t, rfl, h2, h3⟩ | ⟨t, rfl, h2, h3⟩ | ⟨t, rfl, h2, h3⟩ | ⟨t, rfl, h2, h3, h4⟩
  · -- a blank between words
    rw [h4] at hws
    walk_at "F"
    walk_at "T"
    walk_at "F"
    walk_at "T"
    walk_at "S"
    walk_at "F"
    exact HS_cont fun h c => ⟨.sp, _, _, _, _, pos + 1, _, _, _, m, c.F, c.N, .sp t, hquo, hrest, hi, ht1, .inr ⟨.inr rfl, h5, fun _ => ⟨rfl, rfl⟩, (fun z => nomatch z), Nat.lt_succ_self _⟩⟩
  · -- a mark ' opens a word
    subst h4
    walk_at "F"
    walk_at "T"
    walk_at "F"
    walk_at "F"
    walk_at "F"
    walk_at "F"
    walk_at "F"
    walk_at "F"
    walk_at "T"
    walk_at "S"
    refine HS_state X hself had (hrs _) (by walk_at "he") ?_ rfl rfl rfl
    rintro v ⟨t2, rfl⟩
    exact HS_nil fun h c => ⟨.sq, _, _, _, _, pos + 1, _, _, _, m, c.F, c.N, .sq t2, hquo, hrest, hi, ht1, .inr ⟨.inl rfl, h5, (fun z => by rcases z with z | z <;> cases z), (fun z => nomatch z), Nat.lt_succ_self _⟩⟩
  · -- a mark " opens a word
    subst h4
    walk_at "F"
    walk_at "T"
    walk_at "F"
    walk_at "F"
    walk_at "F"
    walk_at "F"
    walk_at "F"
    walk_at "F"
    walk_at "T"
    walk_at "S"
    refine HS_state X hself had (hrs _) (by walk_at "he") ?_ rfl rfl rfl
    rintro v ⟨t2, rfl⟩
    exact HS_nil fun h c => ⟨.dq, _, _, _, _, pos + 1, _, _, _, m, c.F, c.N, .dq t2, hquo, hrest, hi, ht1, .inr ⟨.inl rfl, h5, (fun z => by rcases z with z | z <;> cases z), (fun z => nomatch z), Nat.lt_succ_self _⟩⟩
  · -- a word begins
    rw [h4] at hws
    rw [decide_eq_false h5] at hes
    rw [decide_eq_false h6, decide_eq_false h7] at hqu
    replace hqu : decide (c ∈ (Str.ofString "'\"").cps.toList) = false := hqu
    walk_at "F"
    walk_at "T"
    walk_at "F"
    walk_at "F"
    walk_at "F"
    walk_at "F"
    cases hwo : decide (c ∈ wc.cps.toList) with
    | true =>
      walk_at "T"
      refine HS_token X hself had (hrs _) (by walk_at "he") ?_ rfl rfl rfl
      rintro v ⟨t2, rfl⟩
      refine HS_state X hself had (hrs _) (by walk_at "he") ?_ rfl rfl rfl
      rintro v ⟨t3, rfl⟩
      exact HS_nil fun h c => ⟨.wd, _, _, _, _, pos + 1, _, _, _, m, c.F, c.N, .wd t3, hquo, hrest, hi, (by rw [len1]; omega), .inr ⟨.inl rfl, h8, (fun z => by rcases z with z | z <;> cases z), (fun _ z => by rw [len1] at z; cases z), Nat.lt_succ_self _⟩⟩
    | false =>
      walk_at "F"
      walk_at "F"
      walk_at "F"
      walk_at "T"
      refine HS_token X hself had (hrs _) (by walk_at "he") ?_ rfl rfl rfl
      rintro v ⟨t2, rfl⟩
      refine HS_state X hself had (hrs _) (by walk_at "he") ?_ rfl rfl rfl
      rintro v ⟨t3, rfl⟩
      exact HS_nil fun h c => ⟨.wd, _, _, _, _, pos + 1, _, _, _, m, c.F, c.N, .wd t3, hquo, hrest, hi, (by rw [len1]; omega), .inr ⟨.inl rfl, h8, (fun z => by rcases z with z | z <;> cases z), (fun _ z => by rw [len1] at z; cases z), Nat.lt_succ_self _⟩⟩
  · -- a word ends
    rw [h2] at hws
    walk_at "F"
    walk_at "F"
    walk_at "F"
    walk_at "F"
    walk_at "T"
    walk_at "F"
    walk_at "T"
    walk_at "S"
    refine HS_state X hself had (hrs _) (by walk_at "he") ?_ rfl rfl rfl
    rintro v ⟨t2, rfl⟩
    have fin' : ∀ h, TCh w g L m a d (shEs w.params k y (.str (Str.ofString "") com) wc true (.str (Str.ofString " ") t2) pb (.int ln' lt') (.str tok tt) fs) [(y, instObj 597 e), (e, dictOf (siEs w.params ki x (.int (pos + 1 : Nat) pt')) 3), (pb, dqObj), (fs, dqObj)] h → TurnR w g L k ki a d y e pb fs (.str (Str.ofString "") com) wc x m₀ fin pos .brk h :=
      fun h c => ⟨.sp, _, _, _, _, pos + 1, _, _, _, m, c.F, c.N, .sp t2, hquo, hrest, hi, ht1, .inl ⟨rfl, h4⟩⟩
    cases hz : ((tok.length : Int) != 0) with
    | true =>
      walk_at "T"
      exact HS_brk fin'
    | false =>
      have hq1 : q = true := by
        cases q with
        | true => rfl
        | false => exact absurd ⟨by simpa using hz, rfl⟩ h3
      subst hq1
      walk_at "T"
      exact HS_brk fin'
  · -- a mark ' within a word
    subst h2
    walk_at "F"
    walk_at "F"
    walk_at "F"
    walk_at "F"
    walk_at "T"
    walk_at "F"
    walk_at "F"
    walk_at "F"
    walk_at "F"
    walk_at "T"
    refine HS_state X hself had (hrs _) (by walk_at "he") ?_ rfl rfl rfl
    rintro v ⟨t2, rfl⟩
    exact HS_nil fun h c => ⟨.sq, _, _, _, _, pos + 1, _, _, _, m, c.F, c.N, .sq t2, hquo, hrest, hi, ht1, .inr ⟨.inl rfl, h3, (fun z => by rcases z with z | z <;> cases z), (fun z => nomatch z), Nat.lt_succ_self _⟩⟩
  · -- a mark " within a word
    subst h2
    walk_at "F"
    walk_at "F"
    walk_at "F"
    walk_at "F"
    walk_at "T"
    walk_at "F"
    walk_at "F"
    walk_at "F"
    walk_at "F"
    walk_at "T"
    refine HS_state X hself had (hrs _) (by walk_at "he") ?_ rfl rfl rfl
    rintro v ⟨t2, rfl⟩
    exact HS_nil fun h c => ⟨.dq, _, _, _, _, pos + 1, _, _, _, m, c.F, c.N, .dq t2, hquo, hrest, hi, ht1, .inr ⟨.inl rfl, h3, (fun z => by rcases z with z | z <;> cases z), (fun z => nomatch z), Nat.lt_succ_self _⟩⟩
  · -- a word goes on
    rw [h2] at hws
    rw [decide_eq_false h3] at hes
    rw [decide_eq_false h4, decide_eq_false h5] at hqu
    replace hqu : decide (c ∈ (Str.ofString "'\"").cps.toList) = false := hqu
    walk_at "F"
    walk_at "F"
    walk_at "F"
    walk_at "F"
    walk_at "T"
    walk_at "F"
    walk_at "F"
    walk_at "F"
    walk_at "F"
    walk_at "F"
    walk_at "F"
    cases hwo : decide (c ∈ wc.cps.toList) <;> (
      walk_at "T"
      refine HS_grow X hself had (hrs _) (by rw [len1]; omega) (by walk_at "he") ?_ rfl rfl
      intro t2
      exact HS_nil fun h c => ⟨.wd, _, _, _, _, pos + 1, _, _, _, m, c.F, c.N, .wd t, hquo, hrest, hi, (by rw [app_one]; omega), .inr ⟨.inl rfl, h6, (fun z => by rcases z with z | z <;> cases z), (fun _ z => by rw [app_one] at z; cases z), Nat.lt_succ_self _⟩⟩)
  · -- the mark ' closes
    walk_at "F"
    walk_at "F"
    walk_at "T"
    refine HS_let rfl rfl (by walk_at "he") ?_ rfl
    have hself' : (fun z => if z = Str.ofString "quoted" then some (Value.bool true) else m z) (Str.ofString "self") = some (.ref a) := (if_neg (by decide)).trans hself
    have hnext' : (fun z => if z = Str.ofString "quoted" then some (Value.bool true) else m z) (Str.ofString "nextchar") = some (.str ⟨#[c]⟩ tn) := (if_neg (by decide)).trans hnext
    have hquo' : (fun z => if z = Str.ofString "quoted" then some (Value.bool true) else m z) (Str.ofString "quoted") = some (.bool true) := if_pos rfl
    have hrest' : ∀ z, z ≠ Str.ofString "quoted" → z ≠ Str.ofString "nextchar" → (fun z => if z = Str.ofString "quoted" then some (Value.bool true) else m z) z = m₀ z := fun z h1 h2 => (if_neg h1).trans (hrest z h1 h2)
    generalize (fun z => if z = Str.ofString "quoted" then some (Value.bool true) else m z) = m1 at hself' hnext' hquo' hrest' ⊢
    walk_at "S"
    have e0 : ((⟨#[c]⟩ : Str) == Str.ofString "'") = true := eqo lit_sq (decide_eq_true h2)
    walk_at "T"
    walk_at "F"
    refine HS_state X hself' had (hrs _) (by walk_at "he") ?_ rfl rfl rfl
    rintro v ⟨t2, rfl⟩
    exact HS_nil fun h c => ⟨.wd, _, _, _, _, pos + 1, _, _, _, m1, c.F, c.N, .wd t2, hquo', hrest', hi, ht1, .inr ⟨.inl rfl, h3, (fun z => by rcases z with z | z <;> cases z), (fun _ _ => rfl), Nat.lt_succ_self _⟩⟩
  · -- a sign within '
    walk_at "F"
    walk_at "F"
    walk_at "T"
    refine HS_let rfl rfl (by walk_at "he") ?_ rfl
    have hself' : (fun z => if z = Str.ofString "quoted" then some (Value.bool true) else m z) (Str.ofString "self") = some (.ref a) := (if_neg (by decide)).trans hself
    have hnext' : (fun z => if z = Str.ofString "quoted" then some (Value.bool true) else m z) (Str.ofString "nextchar") = some (.str ⟨#[c]⟩ tn) := (if_neg (by decide)).trans hnext
    have hquo' : (fun z => if z = Str.ofString "quoted" then some (Value.bool true) else m z) (Str.ofString "quoted") = some (.bool true) := if_pos rfl
    have hrest' : ∀ z, z ≠ Str.ofString "quoted" → z ≠ Str.ofString "nextchar" → (fun z => if z = Str.ofString "quoted" then some (Value.bool true) else m z) z = m₀ z := fun z h1 h2 => (if_neg h1).trans (hrest z h1 h2)
    generalize (fun z => if z = Str.ofString "quoted" then some (Value.bool true) else m z) = m1 at hself' hnext' hquo' hrest' ⊢
    walk_at "S"
    have e0 : ((⟨#[c]⟩ : Str) == Str.ofString "'") = false := eqo lit_sq (decide_eq_false h2)
    walk_at "F"
    cases hz : decide (c = 92) <;> (
      rw [hz] at hes
      walk_at "F"
      refine HS_grow X hself' had (hrs _) (by rw [len1]; omega) (by walk_at "he") ?_ rfl rfl
      intro t2
      exact HS_nil fun h c => ⟨.sq, _, _, _, _, pos + 1, _, _, _, m1, c.F, c.N, .sq t, hquo', hrest', hi, (by rw [app_one]; omega), .inr ⟨.inl rfl, h3, (fun z => by rcases z with z | z <;> cases z), (fun z => nomatch z), Nat.lt_succ_self _⟩⟩)
  · -- the mark " closes
    walk_at "F"
    walk_at "F"
    walk_at "T"
    refine HS_let rfl rfl (by walk_at "he") ?_ rfl
    have hself' : (fun z => if z = Str.ofString "quoted" then some (Value.bool true) else m z) (Str.ofString "self") = some (.ref a) := (if_neg (by decide)).trans hself
    have hnext' : (fun z => if z = Str.ofString "quoted" then some (Value.bool true) else m z) (Str.ofString "nextchar") = some (.str ⟨#[c]⟩ tn) := (if_neg (by decide)).trans hnext
    have hquo' : (fun z => if z = Str.ofString "quoted" then some (Value.bool true) else m z) (Str.ofString "quoted") = some (.bool true) := if_pos rfl
    have hrest' : ∀ z, z ≠ Str.ofString "quoted" → z ≠ Str.ofString "nextchar" → (fun z => if z = Str.ofString "quoted" then some (Value.bool true) else m z) z = m₀ z := fun z h1 h2 => (if_neg h1).trans (hrest z h1 h2)
    generalize (fun z => if z = Str.ofString "quoted" then some (Value.bool true) else m z) = m1 at hself' hnext' hquo' hrest' ⊢
    walk_at "S"
    have e0 : ((⟨#[c]⟩ : Str) == Str.ofString "\"") = true := eqo lit_dq (decide_eq_true h2)
    walk_at "T"
    walk_at "F"
    refine HS_state X hself' had (hrs _) (by walk_at "he") ?_ rfl rfl rfl
    rintro v ⟨t2, rfl⟩
    exact HS_nil fun h c => ⟨.wd, _, _, _, _, pos + 1, _, _, _, m1, c.F, c.N, .wd t2, hquo', hrest', hi, ht1, .inr ⟨.inl rfl, h3, (fun z => by rcases z with z | z <;> cases z), (fun _ _ => rfl), Nat.lt_succ_self _⟩⟩
  · -- a sign within "
    walk_at "F"
    walk_at "F"
    walk_at "T"
    refine HS_let rfl rfl (by walk_at "he") ?_ rfl
    have hself' : (fun z => if z = Str.ofString "quoted" then some (Value.bool true) else m z) (Str.ofString "self") = some (.ref a) := (if_neg (by decide)).trans hself
    have hnext' : (fun z => if z = Str.ofString "quoted" then some (Value.bool true) else m z) (Str.ofString "nextchar") = some (.str ⟨#[c]⟩ tn) := (if_neg (by decide)).trans hnext
    have hquo' : (fun z => if z = Str.ofString "quoted" then some (Value.bool true) else m z) (Str.ofString "quoted") = some (.bool true) := if_pos rfl
    have hrest' : ∀ z, z ≠ Str.ofString "quoted" → z ≠ Str.ofString "nextchar" → (fun z => if z = Str.ofString "quoted" then some (Value.bool true) else m z) z = m₀ z := fun z h1 h2 => (if_neg h1).trans (hrest z h1 h2)
    generalize (fun z => if z = Str.ofString "quoted" then some (Value.bool true) else m z) = m1 at hself' hnext' hquo' hrest' ⊢
    walk_at "S"
    have e0 : ((⟨#[c]⟩ : Str) == Str.ofString "\"") = false := eqo lit_dq (decide_eq_false h2)
    walk_at "F"
    · rw [decide_eq_false h3] at hes
      walk_at "F"
      refine HS_grow X hself' had (hrs _) (by rw [len1]; omega) (by walk_at "he") ?_ rfl rfl
      intro t2
      exact HS_nil fun h c => ⟨.dq, _, _, _, _, pos + 1, _, _, _, m1, c.F, c.N, .dq t, hquo', hrest', hi, (by rw [app_one]; omega), .inr ⟨.inl rfl, h4, (fun z => by rcases z with z | z <;> cases z), (fun z => nomatch z), Nat.lt_succ_self _⟩⟩
end
end Mine

end
section
open PySem PySem.W PySem.Calls PyProof.Rows
set_option Elab.async false
set_option maxRecDepth 100000
set_option linter.unusedVariables false
set_option maxHeartbeats 4000000
set_option compiler.extract_closed false
namespace Mine
theorem fillK_Zv : (PySem.Challenge.rw_mq0407_01 = PySem.Challenge.rw_mq0407_01) ∧ KK = KK := by
  k_fill
  exact ⟨rfl, rfl⟩
section
variable {w : World} {tp : Program} {loose : List Str} {mean : ExcName → Option Value} {mg mb : Str → Option Value} {base g : Heap} {outer : List Env} {s : Shared} {dp un : Nat} {gd : Option (List Code)} {R : Result → Shared → Prop} {fp : List (Addr × Obj)} {fr : Option (List Env)} {A : Around} {E : Value → Shared → Prop}
local macro_rules | `(tactic| walk_at "exec If") => `(tactic| refine wpAny_If ?_)
local macro_rules | `(tactic| walk_at "execs cons") => `(tactic| ((with_reducible refine wpAny_execs_cons ?_); try dsimp only))
local macro_rules | `(tactic| walk_at "ite") => `(tactic| first | with_reducible refine ite_tt ?_ | with_reducible refine ite_ff ?_)
local macro_rules | `(tactic| k_room) => `(tactic| ((try simp only [depth_under_make, depth_under_kw, depth_in1, depth_deeper, depth_caller]); (try dsimp only [Around.deeper, Around.under, Around.in1]); first | exact room0 (by assumption) | exact room1 (by assumption) rfl | exact room2 (by assumption) rfl | omega))
local macro_rules | `(tactic| walk_at "call ref") => `(tactic| ((with_reducible show wpAny _ _ (call (Value.ref 543) _ _) _ _ _); k_dflt (refine' read_K (outer := _) ?A ?f ?ke ?B ?F ?X ?N ?T ?s ?l1 ?l2 ?l3 ?l4 ?l5 ?x ?i ?d ?u ?_ ?_; (case A => exact rfl); (case f => exact rfl); (case ke => exact rfl); (case B => k_asm); (case F => k_asm); (case N => k_asm); (case X => k_asm); (case T => k_asm); (case s => exact sub_cons (by k_mem) (sub_cons (by k_mem) (sub_cons (by k_mem) (sub_cons (by k_mem) (sub_cons (by k_mem) (sub_cons (by k_mem) sub_nil)))))); (all_goals first | assumption | k_room | skip))))
local macro_rules | `(tactic| walk_at "exec While") => `(tactic| (k_dflt (refine' tok_while ?F ?N ?sv ?q ?i ?l ?w ?E ?_ ?_; (case F => k_asm); (case N => exact sub_app (by k_asm) (sub_cons (by k_mem) (sub_cons (by k_mem) (sub_cons (by k_mem) (sub_cons (by k_mem) (sub_cons (by k_mem) (sub_cons (by k_mem) sub_nil))))))); (case sv => assumption); (case q => exact rfl); (case i => assumption); (case l => assumption); (case w => assumption); (case E => passes_own));  (all_goals first | (intro st9 sv9 tok9 tt9 q9 pos9 pt9 ln9 lt9 u9 h9 tk9 hsv9 hTP9 hi9 hl9 F9 N9) | skip)))
local macro_rules | `(tactic| walk_at "exec If") => `(tactic| ((with_reducible show wpAny _ _ (exec (Stmt.If (Expr.Compare (Expr.Name _ _) [CmpOp.Eq] [Expr.Constant _ _ _] _) [Stmt.AugAssign _ _ _ _] [] _) _) _ _ _); (fail_if_success (with_reducible show wpAny _ _ _ (LnQ _ _ _ _ _ _ _ _ _ _ _ _ _ _ _ _ _ _ _) _ _)); k_dflt (refine' ln_cut ?F ?N ?s ?_ ?_; (case F => k_asm); (case N => k_asm); (case s => exact sub_cons (by k_mem) (sub_cons (by k_mem) (sub_cons (by k_mem) (sub_cons (by k_mem) (sub_cons (by k_mem) (sub_cons (by k_mem) sub_nil))))))); (all_goals first | (intro ln8 lt8 h8 tk8 F8 N8) | skip)))
local macro_rules | `(tactic| walk_at "LnQ") => `(tactic| (exact ln_q (by assumption) (by assumption) (sub_cons (by k_mem) (sub_cons (by k_mem) (sub_cons (by k_mem) (sub_cons (by k_mem) (sub_cons (by k_mem) (sub_cons (by k_mem) sub_nil))))))))
local macro_rules | `(tactic| walk_at "execs cons If nil") => `(tactic| ((with_reducible show wpAny _ _ (execs [Stmt.If (Expr.Compare (Expr.Attribute _ _ _) [CmpOp.Is] _ _) _ _ _] _) _ _ _); k_dflt (first
  | (refine' (turn_eof ?hT ?hS ?he ?hx ?B ?X ?T ?hd ?hu ?l1 ?l2 ?l3 ?l4 ?l5 ?hself ?hnext ?hquo ?hrest).run _ _ ?c ?q; (case c => exact ⟨by k_asm, by k_asm⟩); (case hT => assumption); (case hS => assumption); (case he => assumption))
  | (refine' (turn_chr ?hT ?hS ?he ?hp ?hx ?hwc ?B ?X ?T ?hd ?hu ?l1 ?l2 ?l3 ?l4 ?l5 ?hself ?hnext ?hquo ?hrest).run _ _ ?c ?q; (case c => exact ⟨by k_asm, by k_asm⟩); (case hT => assumption); (case hS => assumption); (case he => assumption); (case hp => assumption); (case hwc => assumption))); (case q => exact fun f h' tk' r => turn_post r); (case hx => assumption); (case B => assumption); (case X => assumption); (case T => assumption); (case hd => omega); (case hu => omega); (case l1 => assumption); (case l2 => assumption); (case l3 => assumption); (case l4 => assumption); (case l5 => assumption); (case hself => exact rfl); (case hnext => exact rfl); (case hquo => exact rfl); (case hrest => (intro z e1 e2; (simp only [e1, e2, if_false]); (try rfl)))))
local macro_rules | `(tactic| walk_at "truthy str") => `(tactic| ((with_reducible show wpAny _ _ (truthy (Value.str (Str.mk _) _)) _ _ _); refine truthy_one ?_; intro k8))
theorem rtok_c (k : ShT) (ki : SiT) (x : Str) (a d y e pb fs i : Nat) (com tt pt lt : Tok) (ln : Int) (wc : Str) (st : LSt) (sv : Value) (hx : x.length ≤ 2000) (hi : i ≤ x.length) (hwc : WcOk wc) (hsv : StV st sv) (hst : st = .sp ∨ st = .nn) (fin : Str × Bool × LSt × List Nat) (hl : lx st (Str.ofString "") false (x.cps.toList.drop i) = some fin)
    (B : Below (AA dp un gd outer) base outer g) (X : (KK w.params).In g) (T : Top tp loose mean mg mb g)
    (P : Pre g s.heap (shF w.params k ki a d y e pb fs (.str (Str.ofString "") com) wc true sv (.int ln lt) (.str (Str.ofString "") tt) x (.int i pt))) (l1 : d < a) (l2 : a < e) (l3 : e < y) (l4 : y < pb) (l5 : pb < fs) (hd : dp + 20 < recursionLimit) (hu : un + 200 < cLine)
    (h : ∀ tok q st' sv' j ln' lt' tt' pt' rt h' tk', StV st' sv' → fin = (tok, q, st', x.cps.toList.drop j) → j ≤ x.length → Pre g h' (shF w.params k ki a d y e pb fs (.str (Str.ofString "") com) wc true sv' (.int ln' lt') (.str (Str.ofString "") tt') x (.int j pt')) → R (.ok (.ret (if tok.length = 0 ∧ q = false then .none else .str tok rt))) { s with heap := h', toks := tk' }) :
    codeAny (model prg w) (AA dp un gd outer) (.call (.ref 700) ⟨[.ref a], []⟩) R s := by
  w_on
  k_dflt (refine' enter P X T ?k6 ?k7 ?k8 ?k9 ?kB ?_ ?c5 ?c2 ?c3 ?c4; (case k6 => k_is); (case k7 => k_is); (case k8 => first | exact room0 (by assumption) | omega); (case k9 => first | exact BindsTo.of_eq rfl | exact binds_K (Frag.In.keeps X (Pre.keep P)) rfl (by k_is) rfl rfl rfl); (case c5 => decide); (case kB => exact locs rfl); (case c2 => exact rfl); (case c3 => exact rfl); (case c4 => exact rfl))
  intro L' h₁ F N hlt
  have hq1 : ∀ tok rt q st' sv' j ln' lt' tt' pt' h' tk', ¬ (tok.length = 0 ∧ q = false) → StV st' sv' → fin = (tok, q, st', x.cps.toList.drop j) → j ≤ x.length → Pre g h' (shF w.params k ki a d y e pb fs (.str (Str.ofString "") com) wc true sv' (.int ln' lt') (.str (Str.ofString "") tt') x (.int j pt')) → R (.ok (.ret (.str tok rt))) { s with heap := h', toks := tk' } :=
    fun tok rt q st' sv' j ln' lt' tt' pt' h' tk' e a1 a2 a3 a4 => by have := h tok q st' sv' j ln' lt' tt' pt' rt h' tk' a1 a2 a3 a4; rw [if_neg e] at this; exact this
  have hq0 : ∀ tok q st' sv' j ln' lt' tt' pt' h' tk', (tok.length = 0 ∧ q = false) → StV st' sv' → fin = (tok, q, st', x.cps.toList.drop j) → j ≤ x.length → Pre g h' (shF w.params k ki a d y e pb fs (.str (Str.ofString "") com) wc true sv' (.int ln' lt') (.str (Str.ofString "") tt') x (.int j pt')) → R (.ok (.ret .none)) { s with heap := h', toks := tk' } :=
    fun tok q st' sv' j ln' lt' tt' pt' h' tk' e a1 a2 a3 a4 => by have := h tok q st' sv' j ln' lt' tt' pt' 0 h' tk' a1 a2 a3 a4; rw [if_pos e] at this; exact this
  clear h
  (try dsimp only)
  (try k_fold)
  w_strict k_steps
  all_goals first
  | (refine' hq1 _ _ _ _ _ _ _ _ _ _ _ _ ?zv9 ?za9 ?zb9 ?zc9 ?zd9; (case zd9 => exact Pre.of_fr (by assumption) (by assumption) (sub_cons (by k_mem) (sub_cons (by k_mem) (sub_cons (by k_mem) (sub_cons (by k_mem) (sub_cons (by k_mem) (sub_cons (by k_mem) sub_nil))))))); (case za9 => assumption); (case zb9 => assumption); (case zc9 => assumption); (case zv9 => first | exact nz_q (by assumption) | exact nz_t (by assumption)))
  | (refine' hq0 _ _ _ _ _ _ _ _ _ _ _ ?zv9 ?za9 ?zb9 ?zc9 ?zd9; (case zd9 => exact Pre.of_fr (by assumption) (by assumption) (sub_cons (by k_mem) (sub_cons (by k_mem) (sub_cons (by k_mem) (sub_cons (by k_mem) (sub_cons (by k_mem) (sub_cons (by k_mem) sub_nil))))))); (case za9 => assumption); (case zb9 => assumption); (case zc9 => assumption); (case zv9 => exact zz_t (by assumption) (by assumption)))
end
end Mine

end
section
open PySem PySem.W PySem.Calls PyProof.Rows
set_option Elab.async false
set_option maxRecDepth 100000
set_option linter.unusedVariables false
set_option maxHeartbeats 2000000
set_option compiler.extract_closed false
namespace Mine
theorem fillK_G : (PySem.Challenge.rw_mq0407_01 = PySem.Challenge.rw_mq0407_01) ∧ KK = KK := by
  k_fill
  exact ⟨rfl, rfl⟩
section
variable {w : World} {tp : Program} {loose : List Str} {mean : ExcName → Option Value} {mg mb : Str → Option Value} {base g : Heap} {outer : List Env} {s : Shared} {dp un : Nat} {gd : Option (List Code)} {R : Result → Shared → Prop} {fp : List (Addr × Obj)} {fr : Option (List Env)} {A : Around} {E : Value → Shared → Prop}
theorem rtok_K {A₀ : Around} {env : Env} {L : Addr} {m : Str → Option Value} {news : List (Addr × Obj)} {Q : Value → Shared → Prop} {k : ShT} {ki : SiT} {a d y e pb fs i : Nat} {com : Tok} {wc : Str} {st : LSt} {sv : Value} {ln : Int} {lt tt : Tok} {x : Str} {pt : Tok} {fin : Str × Bool × LSt × List Nat}
    (hA : A = AA dp un gd (env :: outer)) (hf : env.frame = some L) (hke : env.scope.kind = .function) (B : Below A₀ base outer g) (F : Fr g L s.heap m) (X : (KK w.params).In g) (N : News g L s.heap news) (T : Top tp loose mean mg mb g)
    (hs : ∀ p ∈ shF w.params k ki a d y e pb fs (.str (Str.ofString "") com) wc true sv (.int ln lt) (.str (Str.ofString "") tt) x (.int i pt), p ∈ news) (hx : x.length ≤ 2000) (hi : i ≤ x.length) (hwc : WcOk wc) (hsv : StV st sv) (hst : st = .sp ∨ st = .nn) (hl : lx st (Str.ofString "") false (x.cps.toList.drop i) = some fin) (l1 : d < a) (l2 : a < e) (l3 : e < y) (l4 : y < pb) (l5 : pb < fs) (hd : dp + 20 < recursionLimit) (hu : un + 200 < cLine)
    (h0 : ∀ tok q st' sv' j ln' lt' tt' pt' h' tk', StV st' sv' → fin = (tok, q, st', x.cps.toList.drop j) → j ≤ x.length → (tok.length = 0 ∧ q = false) → Fr g L h' m → News g L h' (shF w.params k ki a d y e pb fs (.str (Str.ofString "") com) wc true sv' (.int ln' lt') (.str (Str.ofString "") tt') x (.int j pt')) → Q .none { s with heap := h', toks := tk' })
    (h1 : ∀ tok q st' sv' j ln' lt' tt' pt' rt h' tk', StV st' sv' → fin = (tok, q, st', x.cps.toList.drop j) → j ≤ x.length → ¬ (tok.length = 0 ∧ q = false) → Fr g L h' m → News g L h' (shF w.params k ki a d y e pb fs (.str (Str.ofString "") com) wc true sv' (.int ln' lt') (.str (Str.ofString "") tt') x (.int j pt')) → Q (.str tok rt) { s with heap := h', toks := tk' }) :
    wpAny (model prg w) A (call (.ref 700) [.ref a]) Q E s := by
  refine sub_call hA hf hke B F X N T hs fun g' B' X' T' P' back => ?_
  refine rtok_c k ki x a d y e pb fs i com tt pt lt ln wc st sv hx hi hwc hsv hst fin hl B' X' T' P' l1 l2 l3 l4 l5 hd hu fun tok q st' sv' j ln' lt' tt' pt' rt h' tk' e1 e2 e3 p => ?_
  obtain ⟨F', b⟩ := back h' _ p
  have N' := b [] fun _ h => nomatch h
  rw [List.append_nil] at N'
  show Q _ _
  by_cases hz : tok.length = 0 ∧ q = false
  · rw [if_pos hz]; exact h0 tok q st' sv' j ln' lt' tt' pt' h' tk' e1 e2 e3 hz F' N'
  · rw [if_neg hz]; exact h1 tok q st' sv' j ln' lt' tt' pt' rt h' tk' e1 e2 e3 hz F' N'
theorem dq_truthyK {L : Addr} {m : Str → Option Value} {news : List (Addr × Obj)} {e : Addr} {Q : Bool → Shared → Prop} (N : News g L s.heap news) (hm : (e, dqObj) ∈ news) (_F : Fr g L s.heap m) (h : ∀ tk, Q false { s with toks := tk }) : wpAny (model prg w) A (truthy (.ref e)) Q E s :=
  dq_truthy (N _ hm).1 (h _)
local macro_rules | `(tactic| k_room) => `(tactic| ((try simp only [depth_under_make, depth_under_kw, depth_in1, depth_deeper, depth_caller]); (try dsimp only [Around.deeper, Around.under, Around.in1]); first | exact room0 (by assumption) | exact room1 (by assumption) rfl | exact room2 (by assumption) rfl | omega))
local macro_rules | `(tactic| walk_at "truthy ref") => `(tactic| (refine dq_truthyK (by k_asm) (by k_mem) (by k_asm) ?_; intro tk8))
local macro_rules | `(tactic| walk_at "exec While") => `(tactic| (k_dflt (refine whl_start 2 ?_)))
local macro_rules | `(tactic| walk_at "call ref") => `(tactic| ((with_reducible show wpAny _ _ (call (Value.ref 700) _ _) _ _ _); k_dflt (refine' rtok_K (outer := _) ?A ?f ?ke ?B ?F ?X ?N ?T ?s ?x ?i ?wc ?sv ?st ?l ?l1 ?l2 ?l3 ?l4 ?l5 ?d ?u ?_ ?_; (case A => exact rfl); (case f => exact rfl); (case ke => exact rfl); (case B => k_asm); (case F => k_asm); (case N => k_asm); (case X => k_asm); (case T => k_asm); (case s => exact sub_cons (by k_mem) (sub_cons (by k_mem) (sub_cons (by k_mem) (sub_cons (by k_mem) (sub_cons (by k_mem) (sub_cons (by k_mem) sub_nil)))))); (all_goals first | assumption | k_room | skip))))
theorem gtok_c (k : ShT) (ki : SiT) (x : Str) (a d y e pb fs i : Nat) (com tt pt lt : Tok) (ln : Int) (wc : Str) (st : LSt) (sv : Value) (hx : x.length ≤ 2000) (hi : i ≤ x.length) (hwc : WcOk wc) (hsv : StV st sv) (hst : st = .sp ∨ st = .nn) (fin : Str × Bool × LSt × List Nat) (hl : lx st (Str.ofString "") false (x.cps.toList.drop i) = some fin)
    (B : Below (AA dp un gd outer) base outer g) (X : (KK w.params).In g) (T : Top tp loose mean mg mb g)
    (P : Pre g s.heap (shF w.params k ki a d y e pb fs (.str (Str.ofString "") com) wc true sv (.int ln lt) (.str (Str.ofString "") tt) x (.int i pt))) (l1 : d < a) (l2 : a < e) (l3 : e < y) (l4 : y < pb) (l5 : pb < fs) (hd : dp + 30 < recursionLimit) (hu : un + 300 < cLine)
    (h : ∀ v tok q st' sv' j ln' lt' tt' pt' rt h' tk', v = (if tok.length = 0 ∧ q = false then .none else .str tok rt) → StV st' sv' → fin = (tok, q, st', x.cps.toList.drop j) → j ≤ x.length → Pre g h' (shF w.params k ki a d y e pb fs (.str (Str.ofString "") com) wc true sv' (.int ln' lt') (.str (Str.ofString "") tt') x (.int j pt')) → R (.ok (.ret v)) { s with heap := h', toks := tk' }) :
    codeAny (model prg w) (AA dp un gd outer) (.call (.ref 693) ⟨[.ref a], []⟩) R s := by
  w_on
  k_dflt (refine' enter P X T ?k6 ?k7 ?k8 ?k9 ?kB ?_ ?c5 ?c2 ?c3 ?c4; (case k6 => k_is); (case k7 => k_is); (case k8 => first | exact room0 (by assumption) | omega); (case k9 => first | exact BindsTo.of_eq rfl | exact binds_K (Frag.In.keeps X (Pre.keep P)) rfl (by k_is) rfl rfl rfl); (case c5 => decide); (case kB => exact locs rfl); (case c2 => exact rfl); (case c3 => exact rfl); (case c4 => exact rfl))
  intro L' h₁ F N hlt
  (try dsimp only)
  (try k_fold)
  w_strict k_steps
  all_goals (try dsimp only)
  all_goals (try k_unfold)
  all_goals (try dsimp only)
  · refine' h _ _ _ _ _ _ _ _ _ _ 0 _ _ (if_pos (by assumption)).symm ?za9 ?zb9 ?zc9 (Pre.of_fr (by assumption) (by assumption) (fun _ z => z)) <;> assumption
  · refine' h _ _ _ _ _ _ _ _ _ _ _ _ _ (if_neg (by assumption)).symm ?ya9 ?yb9 ?yc9 (Pre.of_fr (by assumption) (by assumption) (fun _ z => z)) <;> assumption
end
end Mine

end
section
open PySem PySem.W PySem.Calls PyProof.Rows
set_option Elab.async false
set_option maxRecDepth 100000
set_option linter.unusedVariables false
set_option maxHeartbeats 1000000
set_option compiler.extract_closed false
namespace Mine
theorem fillK_N : (PySem.Challenge.rw_mq0407_01 = PySem.Challenge.rw_mq0407_01) ∧ KK = KK := by
  k_fill
  exact ⟨rfl, rfl⟩
section
variable {w : World} {tp : Program} {loose : List Str} {mean : ExcName → Option Value} {mg mb : Str → Option Value} {base g : Heap} {outer : List Env} {s : Shared} {dp un : Nat} {gd : Option (List Code)} {R : Result → Shared → Prop} {fp : List (Addr × Obj)} {fr : Option (List Env)} {A : Around} {E : Value → Shared → Prop}
theorem gtok_K {A₀ : Around} {env : Env} {L : Addr} {m : Str → Option Value} {news : List (Addr × Obj)} {Q : Value → Shared → Prop} {k : ShT} {ki : SiT} {a d y e pb fs i : Nat} {com : Tok} {wc : Str} {st : LSt} {sv : Value} {ln : Int} {lt tt : Tok} {x : Str} {pt : Tok} {fin : Str × Bool × LSt × List Nat}
    (hA : A = AA dp un gd (env :: outer)) (hf : env.frame = some L) (hke : env.scope.kind = .function) (B : Below A₀ base outer g) (F : Fr g L s.heap m) (X : (KK w.params).In g) (N : News g L s.heap news) (T : Top tp loose mean mg mb g)
    (hs : ∀ p ∈ shF w.params k ki a d y e pb fs (.str (Str.ofString "") com) wc true sv (.int ln lt) (.str (Str.ofString "") tt) x (.int i pt), p ∈ news) (hx : x.length ≤ 2000) (hi : i ≤ x.length) (hwc : WcOk wc) (hsv : StV st sv) (hst : st = .sp ∨ st = .nn) (hl : lx st (Str.ofString "") false (x.cps.toList.drop i) = some fin) (l1 : d < a) (l2 : a < e) (l3 : e < y) (l4 : y < pb) (l5 : pb < fs) (hd : dp + 30 < recursionLimit) (hu : un + 300 < cLine)
    (h0 : ∀ tok q st' sv' j ln' lt' tt' pt' h' tk', StV st' sv' → fin = (tok, q, st', x.cps.toList.drop j) → j ≤ x.length → (tok.length = 0 ∧ q = false) → Fr g L h' m → News g L h' (shF w.params k ki a d y e pb fs (.str (Str.ofString "") com) wc true sv' (.int ln' lt') (.str (Str.ofString "") tt') x (.int j pt')) → Q .none { s with heap := h', toks := tk' })
    (h1 : ∀ tok q st' sv' j ln' lt' tt' pt' rt h' tk', StV st' sv' → fin = (tok, q, st', x.cps.toList.drop j) → j ≤ x.length → ¬ (tok.length = 0 ∧ q = false) → Fr g L h' m → News g L h' (shF w.params k ki a d y e pb fs (.str (Str.ofString "") com) wc true sv' (.int ln' lt') (.str (Str.ofString "") tt') x (.int j pt')) → Q (.str tok rt) { s with heap := h', toks := tk' }) :
    wpAny (model prg w) A (call (.ref 693) [.ref a]) Q E s := by
  refine sub_call hA hf hke B F X N T hs fun g' B' X' T' P' back => ?_
  refine gtok_c k ki x a d y e pb fs i com tt pt lt ln wc st sv hx hi hwc hsv hst fin hl B' X' T' P' l1 l2 l3 l4 l5 hd hu fun v tok q st' sv' j ln' lt' tt' pt' rt h' tk' hv e1 e2 e3 p => ?_
  obtain ⟨F', b⟩ := back h' _ p
  have N' := b [] fun _ h => nomatch h
  rw [List.append_nil] at N'
  show Q _ _
  by_cases hz : tok.length = 0 ∧ q = false
  · rw [hv, if_pos hz]; exact h0 tok q st' sv' j ln' lt' tt' pt' h' tk' e1 e2 e3 hz F' N'
  · rw [hv, if_neg hz]; exact h1 tok q st' sv' j ln' lt' tt' pt' rt h' tk' e1 e2 e3 hz F' N'
local macro_rules | `(tactic| k_room) => `(tactic| ((try simp only [depth_under_make, depth_under_kw, depth_in1, depth_deeper, depth_caller]); (try dsimp only [Around.deeper, Around.under, Around.in1]); first | exact room0 (by assumption) | exact room1 (by assumption) rfl | exact room2 (by assumption) rfl | omega))
local macro_rules | `(tactic| walk_at "call ref") => `(tactic| ((with_reducible show wpAny _ _ (call (Value.ref 693) _ _) _ _ _); k_dflt (refine' gtok_K (outer := _) ?A ?f ?ke ?B ?F ?X ?N ?T ?s ?x ?i ?wc ?sv ?st ?l ?l1 ?l2 ?l3 ?l4 ?l5 ?d ?u ?_ ?_; (case A => exact rfl); (case f => exact rfl); (case ke => exact rfl); (case B => k_asm); (case F => k_asm); (case N => k_asm); (case X => k_asm); (case T => k_asm); (case s => exact sub_cons (by k_mem) (sub_cons (by k_mem) (sub_cons (by k_mem) (sub_cons (by k_mem) (sub_cons (by k_mem) (sub_cons (by k_mem) sub_nil)))))); (all_goals first | assumption | k_room | skip))))
local macro_rules | `(tactic| walk_at "leaving ref") => `(tactic| (k_here; (refine' leave_raiseS ?k1 ?k0 ?k2 ?k3 ?_; (case k0 => exact Heap.MadeExc.of (by assumption)); (case k1 => assumption); (case k2 => assumption); (case k3 => k_asm); k_whole; intro h' t' R' RK' U'; (try dsimp only at R' U' ⊢))))
theorem next_c (k : ShT) (ki : SiT) (x : Str) (a d y e pb fs i : Nat) (com tt pt lt : Tok) (ln : Int) (wc : Str) (st : LSt) (sv : Value) (hx : x.length ≤ 2000) (hi : i ≤ x.length) (hwc : WcOk wc) (hsv : StV st sv) (hst : st = .sp ∨ st = .nn) (fin : Str × Bool × LSt × List Nat) (hl : lx st (Str.ofString "") false (x.cps.toList.drop i) = some fin)
    (B : Below (AA dp un gd outer) base outer g) (X : (KK w.params).In g) (T : Top tp loose mean mg mb g)
    (P : Pre g s.heap (shF w.params k ki a d y e pb fs (.str (Str.ofString "") com) wc true sv (.int ln lt) (.str (Str.ofString "") tt) x (.int i pt))) (l1 : d < a) (l2 : a < e) (l3 : e < y) (l4 : y < pb) (l5 : pb < fs) (hd : dp + 40 < recursionLimit) (hu : un + 400 < cLine)
    (h0 : ∀ tok q st' sv' j ln' lt' tt' pt' ee te h' tk', StV st' sv' → fin = (tok, q, st', x.cps.toList.drop j) → j ≤ x.length → (tok.length = 0 ∧ q = false) → RaisedS base g outer ee (.type "StopIteration") te [] (shF w.params k ki a d y e pb fs (.str (Str.ofString "") com) wc true sv' (.int ln' lt') (.str (Str.ofString "") tt') x (.int j pt')) h' → g.UpToSlots h' → R (.error (.ref ee)) { s with heap := h', toks := tk' })
    (h1 : ∀ tok q st' sv' j ln' lt' tt' pt' rt h' tk', StV st' sv' → fin = (tok, q, st', x.cps.toList.drop j) → j ≤ x.length → ¬ (tok.length = 0 ∧ q = false) → Pre g h' (shF w.params k ki a d y e pb fs (.str (Str.ofString "") com) wc true sv' (.int ln' lt') (.str (Str.ofString "") tt') x (.int j pt')) → R (.ok (.ret (.str tok rt))) { s with heap := h', toks := tk' }) :
    codeAny (model prg w) (AA dp un gd outer) (.call (.ref 729) ⟨[.ref a], []⟩) R s := by
  w_on
  k_dflt (refine' enter P X T ?k6 ?k7 ?k8 ?k9 ?kB ?_ ?c5 ?c2 ?c3 ?c4; (case k6 => k_is); (case k7 => k_is); (case k8 => first | exact room0 (by assumption) | omega); (case k9 => first | exact BindsTo.of_eq rfl | exact binds_K (Frag.In.keeps X (Pre.keep P)) rfl (by k_is) rfl rfl rfl); (case c5 => decide); (case kB => exact locs rfl); (case c2 => exact rfl); (case c3 => exact rfl); (case c4 => exact rfl))
  intro L' h₁ F N hlt
  (try dsimp only)
  (try k_fold)
  w_strict k_steps
  all_goals (try dsimp only)
  all_goals (try k_unfold)
  all_goals (try dsimp only)
  · refine' h0 _ _ _ _ _ _ _ _ _ _ _ _ _ ?za9 ?zb9 ?zc9 ?zd9 ?ze9 ?zf9; (case ze9 => assumption); (case zb9 => assumption); all_goals assumption
  · refine' h1 _ _ _ _ _ _ _ _ _ _ _ _ ?ya9 ?yb9 ?yc9 ?yd9 (Pre.of_fr (by assumption) (by assumption) (fun _ z => z)); (case yb9 => assumption); all_goals assumption
end
end Mine

end
section
open PySem PySem.W PySem.Calls PyProof.Rows
set_option Elab.async false
set_option maxRecDepth 100000
set_option linter.unusedVariables false
set_option maxHeartbeats 1000000
namespace Mine
theorem fillK_Lr : (PySem.Challenge.rw_mq0407_01 = PySem.Challenge.rw_mq0407_01) ∧ KK = KK := by
  k_fill
  exact ⟨rfl, rfl⟩
section
variable {w : World} {tp : Program} {loose : List Str} {mean : ExcName → Option Value} {mg mb : Str → Option Value} {base g : Heap} {outer : List Env} {s : Shared} {dp un : Nat} {gd : Option (List Code)} {R : Result → Shared → Prop} {fp : List (Addr × Obj)} {fr : Option (List Env)} {A : Around} {E : Value → Shared → Prop}
/-- as `under`, and what of the ledger stays in sight -/
theorem under2 {A₀ A : Around} {L : Addr} {m : Str → Option Value} {news : List (Addr × Obj)} {env : Env} (B : Below A₀ base outer g) (F : Fr g L s.heap m) (X : (KK w.params).In g) (N : News g L s.heap news) (T : Top tp loose mean mg mb g)
    (hA : A.frames = some (env :: outer)) (hf : env.frame = some L) (hke : env.scope.kind = .function) (hs : ∀ p ∈ fp, p ∈ news) :
    ∃ g', Below A base (env :: outer) g' ∧ (KK w.params).In g' ∧ Top tp loose mean mg mb g' ∧ Pre g' s.heap fp ∧ Fr g L g' m ∧ (∀ p ∈ news, (∀ q ∈ fp, p.1 ≠ q.1) → g'.get? p.1 = some p.2) ∧
      ∀ h' fp', Pre g' h' fp' → Fr g L h' m ∧ ∀ rest, (∀ p ∈ rest, p ∈ news ∧ ∀ q ∈ fp, p.1 ≠ q.1) → News g L h' (fp' ++ rest) := by
  have N' : News g L s.heap fp := fun p hp => N p (hs p hp)
  obtain ⟨FG, BG, st, _⟩ := groundX (R := fun _ _ => True) B F N' hA hf hke
  have st' : ∀ b o, g.get? b = some o → (hideAll s.heap (fp.map (fun x => x.1))).get? b = some o := st
  have vis : ∀ p ∈ news, (∀ q ∈ fp, p.1 ≠ q.1) → (hideAll s.heap (fp.map (fun x => x.1))).get? p.1 = some p.2 := fun p hn hd => hideAll_get _ (N p hn).1 fun z => by
    obtain ⟨q, hq, e⟩ := List.mem_map.mp z
    exact hd q hq e.symm
  refine ⟨hideAll s.heap (fp.map (fun x => x.1)), BG, X.keeps st', T.keeps st', ⟨fun b o e => of_hideAll _ e, Nat.le_of_eq (hideAll_size _ _), fun p hp => ⟨(N' p hp).1, hideAll_none _ (List.mem_map_of_mem hp)⟩⟩, FG, vis, fun h' fp' P => ?_⟩
  obtain ⟨oL, es, ep, hL, r⟩ := FG.ns
  refine ⟨⟨⟨oL, es, ep, P.keep _ _ hL, r⟩, fun b o e => P.keep b o (st b o e), F.above⟩, fun rest hr p hp => ?_⟩
  rcases List.mem_append.mp hp with hp | hp
  · have q := P.own p hp
    refine ⟨q.1, fun z => ?_, ?_⟩
    · rw [z, hL] at q; cases q.2
    · cases e : g.get? p.1 with
      | none => rfl
      | some o => have := q.2; rw [st _ _ e] at this; cases this
  · obtain ⟨hn, hd⟩ := hr p hp
    exact ⟨P.keep _ _ (vis p hn hd), (N p hn).2⟩
/-- a raise that came back to the frame: the ground is turned -/
theorem raised_back {A₀ : Around} {L : Addr} {m : Str → Option Value} {news fpv fp' : List (Addr × Obj)} {name : Str} {scope : Scope} {a : Addr} {cd : Value} {g' h' : Heap} {ee te : Addr} {cls : Value}
    (B : Below A₀ base outer g) (F : Fr g L g' m) (N : News g L s.heap news) (hv : ∀ p ∈ fpv, p ∈ news ∧ g'.get? p.1 = some p.2) (Rs : RaisedS base g' (envOf name scope L a cd :: outer) ee cls te [] fp' h') (U : g'.UpToSlots h') :
    ∃ g₂, KtsTurn (outer.filterMap (·.frame)) g g₂ ∧ Fr g₂ L h' m ∧ Below A₀ base outer g₂ ∧ News g₂ L h' (fpv ++ fp') := by
  obtain ⟨⟨Bh, hB, hBG, hl, hfl, hnew⟩, htup⟩ := Rs
  obtain ⟨g₂, T₂, F₂, K₂⟩ := kts_ground B F hBG hfl.1 U
  have hL : Bh.get? L = none := by
    obtain ⟨_, ⟨L', _, hf, hn', _⟩, _⟩ := hfl.2.2.1
    obtain rfl : L = L' := Option.some.inj hf
    exact hn'
  refine ⟨g₂, T₂, F₂, K₂, fun p hp => ?_⟩
  rcases List.mem_append.mp hp with hp | hp
  · obtain ⟨hn, e⟩ := hv p hp
    have q := N p hn
    refine ⟨hfl.1 _ _ (hBG _ _ e fun hm => ?_), q.2.1, T₂.none_ _ q.2.2⟩
    rcases kts_mem hm with z | z
    · exact q.2.1 z
    · obtain ⟨_, o, ho, _⟩ := B.frames.mem z
      rw [q.2.2] at ho; cases ho
  · have q := hl p hp
    exact ⟨hfl.1 _ _ q.1, (fun z => by have := q.1; rw [z, hL] at this; cases this), T₂.none_ _ (kts_none F.keep q.2.1)⟩
theorem iter_c (a : Addr) (B : Below (AA dp un gd outer) base outer g) (X : (KK w.params).In g) (T : Top tp loose mean mg mb g) (P : Pre g s.heap fp) (hd : dp + 10 < recursionLimit) (hu : un + 100 < cLine)
    (h : ∀ h' tk', Pre g h' fp → R (.ok (.ret (.ref a))) { s with heap := h', toks := tk' }) :
    codeAny (model prg w) (AA dp un gd outer) (.call (.ref 722) ⟨[.ref a], []⟩) R s := by
  w_on
  k_dflt (refine' enter P X T ?k6 ?k7 ?k8 ?k9 ?kB ?_ ?c5 ?c2 ?c3 ?c4; (case k6 => k_is); (case k7 => k_is); (case k8 => first | exact room0 (by assumption) | omega); (case k9 => first | exact BindsTo.of_eq rfl | exact binds_K (Frag.In.keeps X (Pre.keep P)) rfl (by k_is) rfl rfl rfl); (case c5 => decide); (case kB => exact locs rfl); (case c2 => exact rfl); (case c3 => exact rfl); (case c4 => exact rfl))
  intro L' h₁ F N hlt
  (try dsimp only)
  (try k_fold)
  w_strict k_steps
  exact h _ _ (Pre.of_fr (by assumption) (by assumption) (fun _ z => z))
theorem shF_ne {P : Params} {k : ShT} {ki : SiT} {a d y e pb fs : Nat} {com : Value} {wc : Str} {sp : Bool} {st ln tok : Value} {x : Str} {pos : Value} {S : Nat} (l1 : d < a) (l2 : a < e) (l3 : e < y) (l4 : y < pb) (l5 : pb < fs) (l6 : fs < S) :
    ∀ p ∈ shF P k ki a d y e pb fs com wc sp st ln tok x pos, p.1 ≠ S := by
  intro p hp
  simp only [List.mem_cons, List.not_mem_nil, or_false] at hp
  show @Ne Nat _ _
  rcases hp with rfl | rfl | rfl | rfl | rfl | rfl <;> dsimp only <;> omega
/-- the loop of list(lex) -/
theorem lex_loop {A₀ A1 : Around} {name : Str} {scope : Scope} {L f : Addr} {cd : Value} {m : Str → Option Value} {S : Nat} {res : Value} (hA : A1.in1 = AA dp un gd (envOf name scope L f cd :: outer)) (hke : scope.kind = .function) (B : Below A₀ base outer g) (X : (KK w.params).In g) (T : Top tp loose mean mg mb g)
    (k : ShT) (ki : SiT) (x : Str) (a d y e pb fs : Nat) (com : Tok) (wc : Str) (hx : x.length ≤ 2000) (hwc : WcOk wc) (l1 : d < a) (l2 : a < e) (l3 : e < y) (l4 : y < pb) (l5 : pb < fs) (l6 : fs < S) (hd : dp + 40 < recursionLimit) (hu : un + 400 < cLine) {st : LSt} {r : List Nat} {ts : List Str} (hL : Lexes st r ts) :
    ∀ (s : Shared) (us : List Value) (n : Nat) (sv : Value) (ln : Int) (lt tt : Tok) (i : Nat) (pt : Tok) (ws : List Str) (R : Result → Shared → Prop), StV st sv → (st = .sp ∨ st = .nn) → r = x.cps.toList.drop i → i ≤ x.length → Fr g L s.heap m →
      News g L s.heap ((S, listOf us.toArray n) :: shF w.params k ki a d y e pb fs (.str (Str.ofString "") com) wc true sv (.int ln lt) (.str (Str.ofString "") tt) x (.int i pt)) → StrsAre us ws → us.length + ts.length ≤ 10000 →
      (∀ g₂ h' tk' us' n', KtsTurn (outer.filterMap (·.frame)) g g₂ → Below A₀ base outer g₂ → Fr g₂ L h' m → News g₂ L h' [(S, listOf us'.toArray n')] → StrsAre us' (ws ++ ts) → R (.ok (.ret res)) { s with heap := h', toks := tk' }) →
      codeAny (model prg w) A1 (.builtin "list.extend.loop" ⟨[.ref S, .ref a, res], []⟩) R s := by
  induction hL with
  | @stop st r tok q st' r' hl hz =>
    intro s us n sv ln lt tt i pt ws R hsv hst hr hi F₀ N hS hsz hR
    subst hr
    refine codeAny_builtin F.entry_extend_loop ?_
    rw [Around.under_plainId F.plain_extend_loop _]
    show wpAny _ A1.in1 (pyNext (.ref a) >>= _) _ _ s
    rw [hA]
    refine wpAny_bind (owit_next (f := 729) F₀ X (InstAt.of_news N (.tail _ (.head _)) (.tail _ (.tail _ (.head _)))) (by k_is) (by k_is) ?_)
    obtain ⟨g', B', X', T', P', FG, vis, back⟩ := under2 (A := AA dp un gd (envOf name scope L f cd :: outer)) (fp := shF w.params k ki a d y e pb fs (.str (Str.ofString "") com) wc true sv (.int ln lt) (.str (Str.ofString "") tt) x (.int i pt)) B F₀ X N T rfl rfl hke (fun p hp => .tail _ hp)
    refine wpAny_call (next_c k ki x a d y e pb fs i com tt pt lt ln wc st sv hx hi hwc hsv hst _ hl B' X' T' P' l1 l2 l3 l4 l5 hd hu ?_ ?_)
    · intro tok2 q2 st2 sv2 j ln2 lt2 tt2 pt2 ee te h' tk' _ _ _ _ Rs U
      obtain ⟨g₂, T₂, F₂, K₂, N₂⟩ := raised_back (fpv := [(S, listOf us.toArray n)]) (s := s) B FG N (fun p hp => by
        rw [List.mem_singleton.mp hp]
        exact ⟨.head _, vis _ (.head _) fun q hq z => shF_ne l1 l2 l3 l4 l5 l6 q hq z.symm⟩) Rs U
      obtain ⟨⟨_, _, _, _, hfl, _⟩, _⟩ := Rs
      obtain ⟨ob, hob, hobc⟩ := hfl.there
      have hT : ({ s with heap := h', toks := tk' } : Shared).TypeIs (.ref ee) "StopIteration" := ⟨ob, hob, hobc⟩
      show OwitStop _ _ _ _ _ _
      unfold OwitStop
      refine wpAny_isInstance hT (b := true) (by rw [isSubtype_type]; kernel_rfl) ?_
      rw [if_pos rfl]
      refine wpAny_pure (hR g₂ h' tk' us n T₂ K₂ F₂ (fun p hp => N₂ p (by rw [List.mem_singleton.mp hp]; exact .head _)) ?_)
      rw [List.append_nil]; exact hS
    · intro tok2 q2 st2 sv2 j ln2 lt2 tt2 pt2 rt h' tk' _ he _ hn
      simp only [Prod.mk.injEq] at he
      obtain ⟨rfl, rfl, _⟩ := he
      exact absurd hz hn
  | @item st r tok q st' r' ts hl hz hst' hL' ih =>
    intro s us n sv ln lt tt i pt ws R hsv hst hr hi F₀ N hS hsz hR
    subst hr
    refine codeAny_builtin F.entry_extend_loop ?_
    rw [Around.under_plainId F.plain_extend_loop _]
    show wpAny _ A1.in1 (pyNext (.ref a) >>= _) _ _ s
    rw [hA]
    refine wpAny_bind (owit_next (f := 729) F₀ X (InstAt.of_news N (.tail _ (.head _)) (.tail _ (.tail _ (.head _)))) (by k_is) (by k_is) ?_)
    obtain ⟨g', B', X', T', P', FG, vis, back⟩ := under2 (A := AA dp un gd (envOf name scope L f cd :: outer)) (fp := shF w.params k ki a d y e pb fs (.str (Str.ofString "") com) wc true sv (.int ln lt) (.str (Str.ofString "") tt) x (.int i pt)) B F₀ X N T rfl rfl hke (fun p hp => .tail _ hp)
    refine wpAny_call (next_c k ki x a d y e pb fs i com tt pt lt ln wc st sv hx hi hwc hsv hst _ hl B' X' T' P' l1 l2 l3 l4 l5 hd hu ?_ ?_)
    · intro tok2 q2 st2 sv2 j ln2 lt2 tt2 pt2 ee te h' tk' _ he _ hn
      simp only [Prod.mk.injEq] at he
      obtain ⟨rfl, rfl, _⟩ := he
      exact absurd hn hz
    · intro tok2 q2 st2 sv2 j ln2 lt2 tt2 pt2 rt h' tk' hsv2 he hj hn p
      simp only [Prod.mk.injEq] at he
      obtain ⟨rfl, rfl, rfl, rfl⟩ := he
      obtain ⟨F', b⟩ := back h' _ p
      have Nb := b [(S, listOf us.toArray n)] (fun p hp => by
        rw [List.mem_singleton.mp hp]
        exact ⟨.head _, fun q hq z => shF_ne l1 l2 l3 l4 l5 l6 q hq z.symm⟩)
      have N' : News g L h' ([] ++ (S, listOf us.toArray n) :: shF w.params k ki a d y e pb fs (.str (Str.ofString "") com) wc true sv2 (.int ln2 lt2) (.str (Str.ofString "") tt2) x (.int j pt2)) := fun p hp => Nb p (by
        rcases List.mem_cons.mp hp with rfl | hp
        · exact List.mem_append_right _ (.head _)
        · exact List.mem_append_left _ hp)
      have hS' := (N' _ (.head _)).1
      have hlen : us.length + (ts.length + 1) ≤ 10000 := hsz
      show wpAny _ _ (updateSeq S (·.push (.str tok rt)) >>= _) _ _ _
      refine wpAny_bind ?_
      refine wpAny_updateSeq hS' rfl (wpAny_pure ⟨plainId_quiet F.plain_extend_loop _, ?_⟩) (by simp only [List.size_toArray]; exact Nat.le_trans (show us.length ≤ 10000 by omega) (by decide)) (by simp only [Array.size_push, List.size_toArray]; exact Nat.le_trans (show us.length + 1 ≤ 10000 by omega) (by decide))
      have z := N' _ (.head _)
      refine ih _ (us ++ [.str tok rt]) (n + 1) sv2 ln2 lt2 tt2 j pt2 (ws ++ [tok]) R hsv2 hst' rfl hj (F'.change (Heap.SameBut.update ..) z.2.1 z.2.2) ?_ (StrsAre.append' hS (.cons _ _ .nil)) (by rw [List.length_append, List.length_singleton]; omega) fun g₂ h2 tk2 us' n' T2 K2 F2 N2 S2 => hR g₂ h2 tk2 us' n' T2 K2 F2 N2 (by rw [List.append_assoc] at S2; exact S2)
      refine ki_turn (pre := []) (·.push (.str tok rt)) N' (fun _ h => nomatch h) (shF_ne l1 l2 l3 l4 l5 l6) (List.push_toArray _ _) (if_neg ?_)
      simp
end
end Mine

end
section
open PySem PySem.W PySem.Calls PyProof.Rows
set_option Elab.async false
set_option maxRecDepth 100000
set_option linter.unusedVariables false
set_option maxHeartbeats 1000000
namespace Mine
theorem fillK_Ls : (PySem.Challenge.rw_mq0407_01 = PySem.Challenge.rw_mq0407_01) ∧ KK = KK := by
  k_fill
  exact ⟨rfl, rfl⟩
theorem news_mid {g h : Heap} {L : Addr} {p : Addr × Obj} {l : List (Addr × Obj)} (N : News g L h (p :: l)) : News g L h l := fun q hq => N q (.tail _ hq)
section
variable {w : World} {tp : Program} {loose : List Str} {mean : ExcName → Option Value} {mg mb : Str → Option Value} {base g : Heap} {outer : List Env} {s : Shared} {dp un : Nat} {gd : Option (List Code)} {R : Result → Shared → Prop} {A : Around} {E : Value → Shared → Prop}
/-- list(lex), from its list on -/
theorem init_lex {A₀ A1 : Around} {name : Str} {scope : Scope} {L f : Addr} {cd : Value} {m : Str → Option Value} {S : Nat} (hA : A1.in1 = AA dp un gd (envOf name scope L f cd :: outer)) (hke : scope.kind = .function) (B : Below A₀ base outer g) (X : (KK w.params).In g) (T : Top tp loose mean mg mb g)
    (k : ShT) (ki : SiT) (x : Str) (a d y e pb fs : Nat) (com : Tok) (wc : Str) (hx : x.length ≤ 2000) (hwc : WcOk wc) (l1 : d < a) (l2 : a < e) (l3 : e < y) (l4 : y < pb) (l5 : pb < fs) (l6 : fs < S) (hd : dp + 40 < recursionLimit) (hu : un + 400 < cLine) {ts : List Str} (hL : Lexes .sp x.cps.toList ts) (hts : ts.length ≤ 9000)
    (s : Shared) (st : Tok) (ln : Int) (lt tt : Tok) (pt : Tok) (n : Nat) (R : Result → Shared → Prop) (F₀ : Fr g L s.heap m)
    (N : News g L s.heap ((S, listOf ([] : List Value).toArray n) :: shF w.params k ki a d y e pb fs (.str (Str.ofString "") com) wc true (.str (Str.ofString " ") st) (.int ln lt) (.str (Str.ofString "") tt) x (.int 0 pt)))
    (hR : ∀ g₂ h' tk' us' n', KtsTurn (outer.filterMap (·.frame)) g g₂ → Below A₀ base outer g₂ → Fr g₂ L h' m → News g₂ L h' [(S, listOf us'.toArray n')] → StrsAre us' ts → R (.ok (.ret .none)) { s with heap := h', toks := tk' }) :
    wpAny (model prg w) A1.in1 (Builtin.«list.__init__» ⟨[.ref S, .ref a], []⟩)
      (fun fin s' => match fin with | .done f => R (.ok f) s' | .again c' => c'.quiet = true ∧ codeAny (model prg w) A1 c' R s') (fun e s' => R (.error e) s') s := by
  have hS := (N _ (.head _)).1
  have ne := shF_ne (P := w.params) (k := k) (ki := ki) (com := .str (Str.ofString "") com) (wc := wc) (sp := true) (st := .str (Str.ofString " ") st) (ln := .int ln lt) (tok := .str (Str.ofString "") tt) (x := x) (pos := .int 0 pt) l1 l2 l3 l4 l5 l6
  have upd : ∀ {s' : Shared} {vs : Array Value} {n1 : Nat} (fn : Array Value → Array Value) (vs' : Array Value), Fr g L s'.heap m → News g L s'.heap ((S, listOf vs n1) :: shF w.params k ki a d y e pb fs (.str (Str.ofString "") com) wc true (.str (Str.ofString " ") st) (.int ln lt) (.str (Str.ofString "") tt) x (.int 0 pt)) → fn vs = vs' → ∀ n2, (if vs'.size == vs.size then n1 else n1 + 1) = n2 →
      Fr g L (s'.heap.update S (Obj.mapSeq fn)) m ∧ News g L (s'.heap.update S (Obj.mapSeq fn)) ((S, listOf vs' n2) :: shF w.params k ki a d y e pb fs (.str (Str.ofString "") com) wc true (.str (Str.ofString " ") st) (.int ln lt) (.str (Str.ofString "") tt) x (.int 0 pt)) := by
    intro s' vs n1 fn vs' F1 N1 he n2 hn
    have z := N1 _ (.head _)
    exact ⟨F1.change (Heap.SameBut.update ..) z.2.1 z.2.2, ki_turn (pre := []) fn N1 (fun _ h => nomatch h) ne he hn⟩
  show wpAny _ A1.in1 (do let old ← Builtin.List.listItems (.ref S); Builtin.List.listUpdate (.ref S) (fun _ => #[]); letGo old.toList.reverse; Builtin.List.listExtendWith (.ref S) (.ref a) .none) _ _ s
  refine wpAny_bind ?_
  unfold Builtin.List.listItems
  refine wpAny_bind (wpAny_seqItems hS rfl (wpAny_pure ?_))
  show wpAny _ A1.in1 (updateSeq S (fun _ => #[]) >>= fun _ => letGo (#[] : Array Value).toList.reverse >>= fun _ => Builtin.List.listExtendWith (.ref S) (.ref a) .none) _ _ s
  refine wpAny_bind (wpAny_updateSeq hS rfl ?_)
  obtain ⟨F1, N1⟩ := upd (fun _ => (#[] : Array Value)) #[] F₀ N rfl n (if_pos rfl)
  refine wpAny_bind (wpAny_letGo ?_)
  unfold Builtin.List.listExtendWith
  have I1 := InstAt.of_news N1 (.tail _ (.head _)) (.tail _ (.tail _ (.head _)))
  refine wpAny_bind (I1.type.here ?_)
  have h1 : Builtin.List.listSameRef (.ref S) (.ref a) = false := by
    have : @Ne Nat S a := by omega
    simp [Builtin.List.listSameRef, this]
  have h2 : (Value.ref 732 == Value.type "list") = false := by decide
  have h3 : (Value.ref 732 == Value.type "tuple") = false := by decide
  simp only [h1, h2, h3, Bool.or_false, Bool.false_eq_true, if_false]
  rw [hA]
  refine wpAny_bind (owit_iter (f := 722) F1 X I1 (by k_is) (by k_is) ?_)
  obtain ⟨g', B', X', T', P', FG, vis, back⟩ := under2 (s := { s with heap := s.heap.update S (Obj.mapSeq fun _ => (#[] : Array Value)) }) (A := AA dp un gd (envOf name scope L f cd :: outer)) (fp := (S, listOf (#[] : Array Value) n) :: shF w.params k ki a d y e pb fs (.str (Str.ofString "") com) wc true (.str (Str.ofString " ") st) (.int ln lt) (.str (Str.ofString "") tt) x (.int 0 pt)) B F1 X N1 T rfl rfl hke (fun p hp => hp)
  refine wpAny_call (iter_c a B' X' T' P' (by omega) (by omega) fun h' tk' p => ?_)
  obtain ⟨F2, b⟩ := back h' _ p
  have N2 := b [] fun _ h => nomatch h
  rw [List.append_nil] at N2
  show OwitIt _ _ _ _ _ _
  refine owit_it (C := 732) (g := .ref 729) F2 X (InstAt.of_news N2 (.tail _ (.head _)) (.tail _ (.tail _ (.head _)))) (by k_is) ?_
  have I2 := InstAt.of_news N2 (.tail _ (.head _)) (.tail _ (.tail _ (.head _)))
  refine wpAny_bind (wpAny_holding ?_)
  unfold Builtin.List.listLengthHint
  refine wpAny_bind (wpAny_bind (I2.type.here ((looks_findIn (r := none) (X.keeps F2.keep) (by k_is)).here ?_)))
  show wpAny _ _ (specialOf (Value.ref a) (Str.ofString "__length_hint__") >>= _) _ _ _
  refine wpAny_bind (wpAny_bind (I2.type.here ((looks_findIn (r := none) (X.keeps F2.keep) (by k_is)).here ?_)))
  refine wpAny_pure ?_
  show wpAny _ _ (rule "list.extend.makes-room" >>= fun _ => Builtin.List.listTouch (.ref S) >>= fun _ => again (.builtin "list.extend.loop" ⟨[.ref S, .ref a, .none], []⟩)) _ _ _
  refine wpAny_bind (wpAny_rule ?_)
  refine wpAny_bind ?_
  show wpAny _ _ (updateSeq S (·.push .none) >>= fun _ => updateSeq S (·.pop)) _ _ _
  refine wpAny_bind (wpAny_updateSeq (N2 _ (.head _)).1 rfl ?_)
  obtain ⟨F3, N3⟩ := upd (s' := { s with heap := h', toks := tk' }) (·.push Value.none) #[Value.none] F2 N2 rfl (n + 1) (if_neg (by decide))
  refine wpAny_updateSeq (hz := by exact Nat.le_of_ble_eq_true rfl) (N3 _ (.head _)).1 rfl ?_ (by exact Nat.le_of_ble_eq_true rfl)
  obtain ⟨F4, N4⟩ := upd (s' := { s with heap := h'.update S (Obj.mapSeq (·.push Value.none)), toks := tk' }) (·.pop) #[] F3 N3 rfl (n + 1 + 1) (if_neg (by decide))
  refine wpAny_pure ⟨plainId_quiet F.plain_extend_loop _, ?_⟩
  exact lex_loop hA hke B X T k ki x a d y e pb fs com wc hx hwc l1 l2 l3 l4 l5 l6 hd hu hL _ [] _ _ ln lt tt 0 pt [] R (StV.sp _) (.inl rfl) rfl (Nat.zero_le _) F4 N4 .nil (by show 0 + ts.length ≤ 10000; omega) (fun g₂ h2 tk2 us' n' T2 K2 F2 N2 S2 => hR g₂ h2 tk2 us' n' T2 K2 F2 N2 S2)
theorem list_lex {Q : Value → Shared → Prop} {A₀ : Around} {name : Str} {scope : Scope} {L f : Addr} {cd : Value} {m : Str → Option Value} {news : List (Addr × Obj)} (hA : A.in1.in1 = AA dp un gd (envOf name scope L f cd :: outer)) (hke : scope.kind = .function) (B : Below A₀ base outer g) (X : (KK w.params).In g) (T : Top tp loose mean mg mb g)
    (k : ShT) (ki : SiT) (x : Str) (a d y e pb fs : Nat) (com : Tok) (wc : Str) (hx : x.length ≤ 2000) (hwc : WcOk wc) (l1 : d < a) (l2 : a < e) (l3 : e < y) (l4 : y < pb) (l5 : pb < fs) (hd : dp + 40 < recursionLimit) (hu : un + 400 < cLine) {ts : List Str} (hL : Lexes .sp x.cps.toList ts) (hts : ts.length ≤ 9000)
    (st : Tok) (ln : Int) (lt tt : Tok) (pt : Tok) (F₀ : Fr g L s.heap m) (N : News g L s.heap news)
    (hs : ∀ p ∈ shF w.params k ki a d y e pb fs (.str (Str.ofString "") com) wc true (.str (Str.ofString " ") st) (.int ln lt) (.str (Str.ofString "") tt) x (.int 0 pt), p ∈ news)
    (hR : ∀ S g₂ h' tk' us' n', KtsTurn (outer.filterMap (·.frame)) g g₂ → Below A₀ base outer g₂ → Fr g₂ L h' m → News g₂ L h' [(S, listOf us'.toArray n')] → StrsAre us' ts → Q (.ref S) { s with heap := h', toks := tk' }) :
    wpAny (model prg w) A (call (.type "list") [.ref a]) Q E s := by
  refine callType_codes (Q₁ := fun obj s₁ => obj = .ref s.heap.objs.size ∧ s₁ = { s with heap := s.heap.push { cls := .type "list", data := .seq #[] } }) F.called_list (F.typeCall_list_1 _) F.entry_list_init
    (code_list_new _ ⟨rfl, rfl⟩) fun obj s₁ h₁ => ?_
  obtain ⟨rfl, rfl⟩ := h₁
  have N1 := N.push F₀ (listOf ([] : List Value).toArray 0)
  have N2 : News g L (s.heap.push (listOf ([] : List Value).toArray 0)) ((s.heap.objs.size, listOf ([] : List Value).toArray 0) :: shF w.params k ki a d y e pb fs (.str (Str.ofString "") com) wc true (.str (Str.ofString " ") st) (.int ln lt) (.str (Str.ofString "") tt) x (.int 0 pt)) := fun p hp => by
    rcases List.mem_cons.mp hp with rfl | hp
    · exact N1 _ (.head _)
    · exact N1 _ (.tail _ (hs p hp))
  have l6 : fs < s.heap.objs.size := Heap.lt_size (N _ (hs (fs, dqObj) (.tail _ (.tail _ (.tail _ (.tail _ (.tail _ (.head _)))))))).1
  refine ⟨⟨_, (N2 _ (.head _)).1, rfl⟩, F.args_list_init_2 _ _, ?_⟩
  exact init_lex hA hke B X T k ki x a d y e pb fs com wc hx hwc l1 l2 l3 l4 l5 l6 hd hu hL hts _ st ln lt tt pt 0 _ (F₀.push _) N2 fun g₂ h' tk' us' n' T2 K2 F2 N2 S2 => ⟨rfl, hR _ g₂ h' tk' us' n' T2 K2 F2 N2 S2⟩
end
end Mine

end
section
open PySem PySem.W PySem.Calls PyProof.Rows
set_option Elab.async false
set_option maxRecDepth 100000
set_option maxHeartbeats 2000000
namespace Mine
theorem fillK_U : (PySem.Challenge.rw_mq0407_01 = PySem.Challenge.rw_mq0407_01) ∧ KK = KK := by
  k_fill
  exact ⟨rfl, rfl⟩
section
variable {w : World} {s : Shared} {A : Around} {E : Value → Shared → Prop} {Q : Value → Shared → Prop}
/-- a class whose maker is a def -/
theorem own_new {K : Frag} {C : Addr} {rest : List Value} {kw : List (Str × Value)} {oc : Value} {od : Option Addr} {cd : ClassData} {sl : Array (Option Value)} {c0 : Value} {cl : List Value} {fN fI p : Addr} {rs : List Value} {R : Result → Shared → Prop} (X : K.In s.heap)
    (ho : K.lookup C = some ⟨oc, od, .cls cd, sl⟩) (hsl : sl[4]? = some (some .none)) (hmro : cd.mro = c0 :: cl) (hcall : specialIn K (.ref C) "__call__" = some (some (.builtin "type.__call__"))) (htyp : instIn K (.ref C) (.type "type") = some true)
    (hread : readsIn K C (.type "type") = true) (hfind : findCls K (.ref C) (.type "type") "__new__" = some (.get (.builtin "staticmethod.__get__") (.ref p) .none (.ref C))) (hsm : recIn K p "staticmethod" = some (.ref fN :: rs))
    (hself : subIn K (.ref C) (.ref C) = some true) (hinit : findIn K (.ref C) "__init__" = some (some (.ref fI))) (hfn : typeIn K (.ref fI) = some (.type "function"))
    (h : wpAny (model prg w) (A.under (.builtin "type.__call__" ⟨.ref C :: rest, kw⟩)) (call (.ref fN) (.ref C :: rest) kw) (fun v s₁ => ∃ x dx, v = .ref x ∧ K.In s₁.heap ∧ s₁.heap.get? x = some (instObj C dx) ∧
      codeAny (model prg w) (A.under (.builtin "type.__call__" ⟨.ref C :: rest, kw⟩)) (.call (.ref fI) ⟨.ref x :: rest, kw⟩) (InitBack x R) s₁) (fun e s' => R (.error e) s') { s with toks := s.toks + 1 }) :
    codeAny (model prg w) A (.call (.ref C) ⟨rest, kw⟩) R s := by
  refine codeAny_of_tree ?_
  show wpAny _ _ (callAny (.ref C) _) _ _ _
  refine nd_load (X _ _ ho) ?_
  show wpAny _ _ (callAny.viaDunder (.ref C) _) _ _ _
  unfold callAny.viaDunder
  refine wpAny_bind ((looks_specialIn X hcall).here ?_)
  dsimp only
  rw [tc_bind]
  refine wpAny_bind (wpAny_pure (wpAny_bind (wpAny_pure ?_)))
  refine wpAny_pure (a := Fin.again (.call (.builtin "type.__call__") ⟨.ref C :: rest, kw⟩)) (And.intro rfl ?_)
  refine codeAny_call_builtin_at (Code.quiet_builtin _ (by decide +kernel)) entry_typeCall (check_slot tc_kind tc_split (looks_instIn X htyp) (tc_args _ _ _) ?_)
  unfold Builtin.«type.__call__»
  have hc : clsIn K C = some cd := by unfold clsIn; rw [ho]
  have hm : Looks (model prg w) s.heap (mroOf (.ref C)) cd.mro := (looks_clsIn X hc).andThen .now
  have made : Looks (model prg w) s.heap (Bind.madeBy (.ref C)) none := by
    intro A Q E s k q
    unfold Bind.madeBy
    refine wpAny_bind (hm A _ E s k ?_)
    rw [hmro, List.forIn_cons]
    refine wpAny_bind (wpAny_bind (wpAny_bind (wpAny_bind (wpAny_loadPart (k _ _ (X _ _ ho)) (wpAny_pure ?_)))))
    dsimp only
    rw [hsl]
    exact wpAny_pure (wpAny_pure (wpAny_pure q))
  obtain ⟨hh, g, d, tk, os⟩ := s
  refine wpAny_bind (hm.at ?_)
  rw [if_neg (by rw [hmro]; exact Bool.false_ne_true)]
  refine wpAny_bind (made.at ?_)
  dsimp only
  refine wpAny_bind (cls_bind X hread hfind (wpAny_call (sm_get (s := ⟨hh, g, d, tk + 1, os⟩) X hsm (handed_on rfl ?_))))
  refine wpAny_bind (wpAny_holding (wpAny_mono h (fun v s₁ h₁ => ?_) fun _ _ e => e))
  obtain ⟨x, dx, rfl, X₁, hx, hq⟩ := h₁
  obtain ⟨hh₁, g₁, d₁, tk₁, os₁⟩ := s₁
  have t1 : Looks (model prg w) hh₁ (typeOf (.ref x)) (.ref C) := (Looks.ld hx).andThen .now
  have s1 : Looks (model prg w) hh₁ (isSubtype (.ref C) (.ref C)) true := looks_subIn X₁ hself
  have i1 : Looks (model prg w) hh₁ (typeLookup (.ref C) "__init__") (some (.ref fI)) := looks_findIn X₁ hinit
  have b1 : Looks (model prg w) hh₁ (bindSpecial (.ref fI) (.ref x)) (.ref fI, [.ref x]) := bind_fn X₁ _ hfn
  unfold isInstance callSpecial? specialOf
  repeat (first | with_reducible refine wpAny_call ?_ | lk)
  refine codeAny_mono hq fun r s' z => ?_
  rcases r with e | (v | _ | _ | _) <;> first | exact z | exact z.elim | skip
  obtain ⟨rfl, z⟩ := z
  exact wpAny_pure (wpAny_pure z)
theorem peek_here (P : Params) (p : Program) : peek (KK P) ⟨p, P⟩ (Bind.madeHere "object.__new__" (.ref 597)) = some () := by kernel_rfl
theorem peek_check (P : Params) (p : Program) : peek (KK P) ⟨p, P⟩ (checkBuiltinCall "object.__new__" ⟨[.ref 597], []⟩) = some () := by kernel_rfl
theorem cls_at {K : Frag} {C : Addr} {oc : Value} {od : Option Addr} {cd : ClassData} {sl : Array (Option Value)} (ho : K.lookup C = some ⟨oc, od, .cls cd, sl⟩) (h1 : cd.abstract = false) (h2 : cd.hasDel = false) : ∃ oc od cd sl, K.lookup C = some ⟨oc, od, .cls cd, sl⟩ ∧ cd.abstract = false ∧ cd.hasDel = false := ⟨_, _, _, _, ho, h1, h2⟩
theorem new_sio {R : Result → Shared → Prop} {h : Heap} {g : Array GenState} {d : Drawn} {t : Nat} {os : OsState} (X : (KK w.params).In h)
    (hq : R (.ok (.ret (.ref (h.objs.size + 1)))) ⟨(h.push emptyDict).push (instObj 597 h.objs.size), g, d, t, os⟩) :
    codeAny (model prg w) A (.call (.builtin "object.__new__") ⟨[.ref 597], []⟩) R ⟨h, g, d, t, os⟩ := by
  obtain ⟨oc, od, cd, sl, ho, e1, e2⟩ : ∃ oc od cd sl, (KK w.params).lookup 597 = some ⟨oc, od, .cls cd, sl⟩ ∧ cd.abstract = false ∧ cd.hasDel = false := by
    k_dflt (refine' cls_at ?k1 ?k2 ?k3; (case k1 => k_is); (case k2 => rfl); (case k3 => rfl))
  have hC : h.get? 597 = some ⟨oc, od, .cls cd, sl⟩ := X _ _ ho
  have F := PySem.F.objNew
  refine codeAny_call_builtin_code (Code.quiet_builtin _ F.quiet) ?_
  refine (Looks.of_peek (M := model prg w) X (peek_check w.params prg)).at ?_
  refine codeAny_builtin F.entry ?_
  unfold Builtin.«object.__new__»
  have here : Looks (model prg w) h (Bind.madeHere "object.__new__" (.ref 597)) () := Looks.of_peek X (peek_here w.params prg)
  have fin : ∀ A', wpAny (model prg w) A' (do
      let d ← if typeHasDict (.ref 597) then some <$> alloc { cls := .type "dict", data := .dict #[] } else pure none
      ret (← newObj (.ref 597) .plain d)) (fun fin s' => match fin with | .done f => R (.ok f) s' | .again c' => c'.quiet = true ∧ codeAny (model prg w) A c' R s') (fun e s' => R (.error e) s') ⟨h, g, d, t, os⟩ := by
    intro A'
    show wpAny _ _ ((alloc emptyDict >>= fun x => pure (some x)) >>= _) _ _ _
    refine wpAny_bind (wpAny_bind (wpAny_alloc (wpAny_pure (wpAny_bind ?_))))
    show wpAny _ _ (newObjAsIs _ _ _) _ _ _
    unfold newObjAsIs classHasDel
    refine wpAny_bind (wpAny_alloc (wpAny_bind (wpAny_bind (wpAny_load (Heap.get?_push_of_some _ (Heap.get?_push_of_some _ hC)) (wpAny_pure ?_)))))
    rw [e2]
    refine wpAny_pure (wpAny_pure ?_)
    show R _ _
    rw [Heap.size_push]
    exact hq
  repeat (first | simp only [e1, Bool.false_eq_true, if_false] | exact fin _ | lk)
end
end Mine

end
section
open PySem PySem.W PySem.Calls PyProof.Rows
set_option Elab.async false
set_option maxRecDepth 100000
set_option maxHeartbeats 4000000
set_option compiler.extract_closed false
namespace Mine
theorem fillK_V : (PySem.Challenge.rw_mq0407_01 = PySem.Challenge.rw_mq0407_01) ∧ KK = KK := by
  k_fill
  exact ⟨rfl, rfl⟩
section
variable {w : World} {tp : Program} {loose : List Str} {mean : ExcName → Option Value} {mg mb : Str → Option Value} {base g : Heap} {outer : List Env} {s : Shared} {dp un : Nat} {gd : Option (List Code)} {R : Result → Shared → Prop} {fp : List (Addr × Obj)} {fr : Option (List Env)}
local macro_rules | `(tactic| k_room) => `(tactic| ((try simp only [depth_under_make, depth_under_kw, depth_in1, depth_deeper, depth_caller]); (try dsimp only [Around.deeper, Around.under, Around.in1]); first | exact room0 (by assumption) | exact room1 (by assumption) rfl | exact room2 (by assumption) rfl | omega))
local macro_rules | `(tactic| walk_at "call ref") => `(tactic| ((with_reducible show wpAny _ _ (call (Value.ref 597) _ _) _ _ _); k_dflt (refine' wpAny_call (own_new ?X ?ho ?hsl ?hm ?hc ?ht ?hr ?hf ?hs ?he ?hi ?hn ?_); (case X => k_in); (case ho => k_is); (case hsl => rfl); (case hm => rfl); (case hc => k_is); (case ht => k_is); (case hr => k_is); (case hf => k_is); (case hs => k_is); (case he => k_is); (case hi => k_is); (case hn => k_is))))
theorem new_sioK {A : Around} {E : Value → Shared → Prop} {Q : Value → Shared → Prop} {L : Addr} {m : Str → Option Value} {news : List (Addr × Obj)} (F : Fr g L s.heap m) (N : News g L s.heap news) (X : (KK w.params).In g)
    (h : ∀ x dx h', Fr g L h' m → News g L h' ((x, instObj 597 dx) :: (dx, dictOf [] 0) :: news) → (∀ p ∈ news, p.1 < dx) → dx < x → Q (.ref x) { s with heap := h' }) :
    wpAny (model prg w) A (call (.builtin "object.__new__") [.ref 597]) Q E s := by
  obtain ⟨hh, g', d, t, os⟩ := s
  have N' := (N.push F emptyDict).push (F.push _) (instObj 597 hh.objs.size)
  rw [Heap.size_push] at N'
  exact wpAny_call (new_sio (X.keeps F.keep) (h _ hh.objs.size _ ((F.push _).push _) N' (fun p hp => Heap.lt_size (N p hp).1) (Nat.lt_succ_self _)))
local macro_rules | `(tactic| walk_at "call builtin:object.__new__") => `(tactic| (k_dflt (refine' new_sioK ?k1 ?k2 ?k3 ?_; (case k1 => k_asm); (case k2 => k_asm); (case k3 => k_asm); k_whole; intro x' d' h' F' N' l1 l2; (try k_lt l1); (try k_lt2 l2); (try k_sweep))))
theorem news_at {h : Heap} {L a : Addr} {o : Obj} {news : List (Addr × Obj)} (N : News g L h news) (hm : (a, o) ∈ news) : h.get? a = some o := (N _ hm).1
local macro_rules | `(tactic| walk_at "Exists") => `(tactic| (k_dflt (refine' ⟨_, _, rfl, ?X, ?G, ?_⟩; (case X => k_in); (case G => (refine' news_at ?N ?m; (case N => k_asm); (case m => k_mem))); k_whole; k_enter)))
local macro_rules | `(tactic| walk_at "compareOp IsNot ref ref") => `(tactic| refine isnot_ref_same ?_)
theorem dq_K {A : Around} {E : Value → Shared → Prop} {Q : Value → Shared → Prop} {L : Addr} {m : Str → Option Value} {news : List (Addr × Obj)} (F : Fr g L s.heap m) (N : News g L s.heap news)
    (h : ∀ x h', Fr g L h' m → News g L h' ((x, dqObj) :: news) → (∀ p ∈ news, p.1 < x) → Q (.ref x) { s with heap := h' }) :
    wpAny (model prg w) A (call (.type "collections.deque") []) Q E s := by
  refine dq_call fun h' k hx sz => ?_
  refine h s.heap.objs.size h' (F.keeps k) (fun p hp => ?_) (fun p hp => Heap.lt_size (N p hp).1)
  rcases List.mem_cons.mp hp with rfl | hp
  · refine ⟨hx, Nat.ne_of_gt F.ns.lt, Heap.get?_none_of_le (Nat.le_trans F.above (Nat.le_of_lt F.ns.lt))⟩
  · exact ⟨k _ _ (N p hp).1, (N p hp).2⟩
local macro_rules | `(tactic| walk_at "call type:collections.deque") => `(tactic| (k_dflt (refine' dq_K ?k1 ?k2 ?_; (case k1 => k_asm); (case k2 => k_asm); k_whole; intro x' h' F' N' l1; (try k_lt l1); (try k_sweep))))
theorem shinit_c (x : Str) (t : Tok) (a d : Addr) (hx : x.length ≤ 2000) (B : Below (AA dp un gd outer) base outer g) (X : (KK w.params).In g) (T : Top tp loose mean mg mb g) (P : Pre g s.heap [(a, instObj 732 d), (d, dictOf [] 0)]) (had : d < a) (hd : dp + 10 < recursionLimit) (hu : un + 100 < cLine)
    (h : ∀ (k : ShT) (ki : SiT) (y e pb fs : Nat) com wc lt tt pt st h' tk', WcOk wc → @LT.lt Nat _ a e → e < y → y < pb → pb < fs →
      Pre g h' [(a, instObj 732 d), (d, dictOf (shEs w.params k y (.str (Str.ofString "#") com) wc false (.str (Str.ofString " ") st) pb (.int 1 lt) (.str (Str.ofString "") tt) fs) 19), (y, instObj 597 e), (e, dictOf (siEs w.params ki x (.int 0 pt)) 3), (pb, dqObj), (fs, dqObj)] → R (.ok (.ret .none)) { s with heap := h', toks := tk' }) :
    codeAny (model prg w) (AA dp un gd outer) (.call (.ref 656) ⟨[.ref a, .str x t], [(Str.ofString "posix", .bool true)]⟩) R s := by
  w_on
  k_dflt (refine' enter P X T ?k6 ?k7 ?k8 ?k9 ?kB ?_ ?c5 ?c2 ?c3 ?c4; (case k6 => k_is); (case k7 => k_is); (case k8 => first | exact room0 (by assumption) | omega); (case k9 => first | exact BindsTo.of_eq rfl | exact binds_K (Frag.In.keeps X (Pre.keep P)) rfl (by k_is) rfl rfl rfl); (case c5 => decide); (case kB => exact locs rfl); (case c2 => exact rfl); (case c3 => exact rfl); (case c4 => exact rfl))
  intro L' h₁ F N hlt
  have hne : @Ne Nat a d := Nat.ne_of_gt had
  (try dsimp only)
  (try k_fold)
  w_strict k_steps
  refine' h ⟨_, _, _, _, _, _, _, _, _, _, _, _, _, _, _, _, _, _, _, _, _, _, _, _, _, _⟩ ⟨_, _, _, _, _⟩ _ _ _ _ _ _ _ _ _ _ _ _ ?e0 ?e1 ?e2 ?e3 ?e4 ?P
  case P => refine' Pre.of_fr (by assumption) (by assumption) (sub_cons (by k_mem) (sub_cons (by k_mem) (sub_cons (by k_mem) (sub_cons (by k_mem) (sub_cons (by k_mem) (sub_cons (by k_mem) sub_nil))))))
  case e0 => exact ⟨by decide +kernel, by decide +kernel, by decide +kernel⟩
  all_goals (show @LT.lt Nat _ _ _; omega)
end
end Mine

end
section
open PySem PySem.W PySem.Calls PyProof.Rows
set_option Elab.async false
set_option maxRecDepth 100000
set_option linter.unusedVariables false
set_option maxHeartbeats 1000000
set_option compiler.extract_closed false
namespace Mine
theorem fillK_Spl : (PySem.Challenge.rw_mq0407_01 = PySem.Challenge.rw_mq0407_01) ∧ KK = KK := by
  k_fill
  exact ⟨rfl, rfl⟩
section
variable {w : World} {tp : Program} {loose : List Str} {mean : ExcName → Option Value} {mg mb : Str → Option Value} {base g : Heap} {outer : List Env} {s : Shared} {dp un : Nat} {gd : Option (List Code)} {R : Result → Shared → Prop} {A : Around} {E : Value → Shared → Prop}
local macro_rules | `(tactic| k_room) => `(tactic| ((try simp only [depth_under_make, depth_under_kw, depth_in1, depth_deeper, depth_caller]); (try dsimp only [Around.deeper, Around.under, Around.in1]); first | exact room0 (by assumption) | exact room1 (by assumption) rfl | exact room2 (by assumption) rfl | omega))
theorem under_make (dp un : Nat) (gd : Option (List Code)) (outer : List Env) (env : Env) (C : Addr) (vals : List Value) (kw : List (Str × Value)) :
    ((AF dp un gd (some outer)).deeper env).under (.builtin "type.__call__" ⟨.ref C :: vals, kw⟩) = AA (dp + 2) (un + 4) gd (env :: outer) := rfl
/-- shlex(s, posix=True) within a def's walk -/
theorem make_shlex {A₀ : Around} {env : Env} {L : Addr} {m : Str → Option Value} {news : List (Addr × Obj)} {Q : Value → Shared → Prop} {x : Str} {t : Tok}
    (hA : A.under (.builtin "type.__call__" ⟨[.ref 732, .str x t], [(Str.ofString "posix", .bool true)]⟩) = AA dp un gd (env :: outer)) (hf : env.frame = some L) (hke : env.scope.kind = .function) (B : Below A₀ base outer g) (F : Fr g L s.heap m) (X : (KK w.params).In g) (N : News g L s.heap news) (T : Top tp loose mean mg mb g) (hx : x.length ≤ 2000) (hd : dp + 10 < recursionLimit) (hu : un + 100 < cLine)
    (h : ∀ (k : ShT) (ki : SiT) (a d y e pb fs : Nat) com wc lt tt pt st h' tk', WcOk wc → d < a → a < e → e < y → y < pb → pb < fs → Fr g L h' m → News g L h' (shF w.params k ki a d y e pb fs (.str (Str.ofString "#") com) wc false (.str (Str.ofString " ") st) (.int 1 lt) (.str (Str.ofString "") tt) x (.int 0 pt)) → Q (.ref a) { s with heap := h', toks := tk' }) :
    wpAny (model prg w) A (call (.ref 732) [.str x t] [(Str.ofString "posix", .bool true)]) Q E s := by
  refine call_cls (K := KK w.params) F X N (by k_is) (by k_is) (by k_is) fun a d h₁ F1 N1 l1 l2 => ?_
  rw [hA]
  obtain ⟨g', B', X', T', P', FG, vis, back⟩ := under2 (s := { s with heap := h₁ }) (A := AA dp un gd (env :: outer)) (fp := [(a, instObj 732 d), (d, dictOf [] 0)]) B F1 X N1 T rfl hf hke (fun p hp => by
    simp only [List.mem_cons, List.not_mem_nil, or_false] at hp
    rcases hp with rfl | rfl
    · exact .head _
    · exact .tail _ (.head _))
  refine shinit_c x t a d hx B' X' T' P' l2 hd hu fun k ki y e pb fs com wc lt tt pt st h' tk' hw l3 l4 l5 l6 p => ?_
  obtain ⟨F2, b⟩ := back h' _ p
  have N2 := b [] fun _ h => nomatch h
  rw [List.append_nil] at N2
  exact ⟨rfl, h k ki a d y e pb fs com wc lt tt pt st h' tk' hw l2 l3 l4 l5 l6 F2 N2⟩
local macro_rules | `(tactic| walk_at "call ref") => `(tactic| ((with_reducible show wpAny _ _ (call (Value.ref 732) _ _) _ _ _); k_dflt (refine' make_shlex (outer := _) ?A ?f ?ke ?B ?F ?X ?N ?T ?x ?d ?u ?_; (case A => exact under_make _ _ _ _ _ _ _ _); (case f => exact rfl); (case ke => exact rfl); (case B => k_asm); (case F => k_asm); (case N => k_asm); (case X => k_asm); (case T => k_asm); (case x => assumption); (case d => k_room); (case u => k_room)); intro k9 ki9 a9 d9 y9 e9 pb9 fs9 com9 wc9 lt9 tt9 pt9 st9 h9 tk9 hw9 l91 l92 l93 l94 l95 F9 N9))
local macro_rules | `(tactic| walk_at "call type:list") => `(tactic| (k_dflt (refine' list_lex ?A ?ke ?B ?X ?T _ _ _ _ _ _ _ _ _ _ _ ?hx ?hwc ?l1 ?l2 ?l3 ?l4 ?l5 ?hd ?hu ?hL ?hts _ _ _ _ _ ?F ?N ?hs ?_; (case A => exact rfl); (case ke => exact rfl); (case B => k_asm); (case X => k_asm); (case T => k_asm); (case F => k_asm); (case N => k_asm); (case hs => exact (sub_cons (by k_mem) (sub_cons (by k_mem) (sub_cons (by k_mem) (sub_cons (by k_mem) (sub_cons (by k_mem) (sub_cons (by k_mem) sub_nil))))))); (case hL => assumption); (case hx => assumption); (case hwc => assumption); (case l1 => assumption); (case l2 => assumption); (case l3 => assumption); (case l4 => assumption); (case l5 => assumption); (case hd => k_room); (case hu => k_room); (case hts => assumption)); intro S9 g9 h9 tk9 us9 n9 KT9 B9 F9 N9 S9))
theorem split_c (x : Str) (t : Tok) (ts : List Str) (hx : x.length ≤ 2000) (hL : Lexes .sp x.cps.toList ts) (hts : ts.length ≤ 9000)
    (B : Below (AA dp un gd outer) base outer g) (X : (KK w.params).In g) (T : Top tp loose mean mg mb g) (P : Pre g s.heap []) (hd : dp + 60 < recursionLimit) (hu : un + 600 < cLine)
    (h : ∀ S g₂ us n h' tk', KtsTurn (outer.filterMap (·.frame)) g g₂ → StrsAre us ts → Pre g₂ h' [(S, listOf us.toArray n)] → R (.ok (.ret (.ref S))) { s with heap := h', toks := tk' }) :
    codeAny (model prg w) (AA dp un gd outer) (.call (.ref 744) ⟨[.str x t], []⟩) R s := by
  w_on
  k_dflt (refine' enter P X T ?k6 ?k7 ?k8 ?k9 ?kB ?_ ?c5 ?c2 ?c3 ?c4; (case k6 => k_is); (case k7 => k_is); (case k8 => first | exact room0 (by assumption) | omega); (case k9 => first | exact BindsTo.of_eq rfl | exact binds_K (Frag.In.keeps X (Pre.keep P)) rfl (by k_is) rfl rfl rfl); (case c5 => decide); (case kB => exact locs rfl); (case c2 => exact rfl); (case c3 => exact rfl); (case c4 => exact rfl))
  intro L' h₁ F N hlt
  (try dsimp only)
  (try k_fold)
  w_strict k_steps
  all_goals (try dsimp only)
  all_goals (try k_unfold)
  all_goals (try dsimp only)
  exact h _ _ _ _ _ _ (by assumption) (by assumption) (Pre.of_fr (by assumption) (by assumption) (fun _ z => z))
end
end Mine

end
section
open PySem PySem.W PySem.Calls PyProof.Rows
set_option Elab.async false
set_option maxRecDepth 100000
set_option linter.unusedVariables false
set_option maxHeartbeats 1000000
namespace Mine
section
variable {w : World} {tp : Program} {loose : List Str} {mean : ExcName → Option Value} {mg mb : Str → Option Value} {base g : Heap} {s : Shared} {dp un : Nat} {gd : Option (List Code)} {A : Around} {E : Value → Shared → Prop}
/-- split called within the law's own frame -/
theorem split_K {A₀ : Around} {env : Env} {L : Addr} {m : Str → Option Value} {news : List (Addr × Obj)} {Q : Value → Shared → Prop} {x : Str} {t : Tok} {ts : List Str}
    (hA : A = AA dp un gd [env]) (hf : env.frame = some L) (hke : env.scope.kind = .function) (B : Below A₀ base [] g) (F : Fr g L s.heap m) (X : (KK w.params).In g) (N : News g L s.heap news) (T : Top tp loose mean mg mb g)
    (hx : x.length ≤ 2000) (hL : Lexes .sp x.cps.toList ts) (hts : ts.length ≤ 9000) (hd : dp + 60 < recursionLimit) (hu : un + 600 < cLine)
    (h : ∀ S us n h' tk', StrsAre us ts → (∀ p ∈ news, @Ne Nat p.1 S) → Fr g L h' m → News g L h' ((S, listOf us.toArray n) :: news) → Q (.ref S) { s with heap := h', toks := tk' }) :
    wpAny (model prg w) A (call (.ref 744) [.str x t]) Q E s := by
  subst hA
  obtain ⟨g', B', X', T', P', FG, vis, back⟩ := under2 (A := AA dp un gd [env]) (fp := []) B F X N T rfl hf hke (fun _ h => nomatch h)
  refine wpAny_call (split_c x t ts hx hL hts B' X' T' P' hd hu fun S g₂ us n h' tk' K hS P => ?_)
  have hfs : ([env].filterMap (·.frame)) = [L] := by simp [hf]
  rw [hfs] at K
  have hv : ∀ p ∈ news, g₂.get? p.1 = some p.2 := fun p hp => K.other _ _ (vis p hp fun _ h => nomatch h) fun z => (N p hp).2.1 (List.mem_singleton.mp z)
  have hgL := kts_self F
  have hg : ∀ b o, g.get? b = some o → g₂.get? b = some o := fun b o e => K.other _ _ (FG.keep b o e) fun z => by
    rw [List.mem_singleton.mp z, hgL] at e; cases e
  obtain ⟨oL, es, ep, hLo, r1, r2, r3⟩ := FG.ns
  obtain ⟨sl, hsl⟩ := K.frame L oL hLo (.head _)
  have q := P.own _ (.head _)
  have F' : Fr g L h' m := ⟨⟨_, es, ep, P.keep _ _ hsl, r1, r2, r3⟩, fun b o e => P.keep b o (hg b o e), F.above⟩
  refine h S us n h' tk' hS (fun p hp z => ?_) F' fun p hp => ?_
  · have := hv p hp
    rw [z] at this
    rw [q.2] at this; cases this
  · rcases List.mem_cons.mp hp with rfl | hp
    · refine ⟨q.1, fun z => ?_, ?_⟩
      · have := q.2; rw [z, hsl] at this; cases this
      · cases e : g.get? S with
        | none => rfl
        | some o => have := q.2; rw [hg _ _ e] at this; cases this
    · exact ⟨P.keep _ _ (hv p hp), (N p hp).2⟩
end
end Mine

end
section
open PySem PySem.W PySem.Calls PyProof.Rows PyProof.Rows.LCg
set_option Elab.async false
set_option maxRecDepth 100000
set_option linter.unusedVariables false
set_option maxHeartbeats 1000000
namespace Mine
/-- the heap of a comprehension's turn -/
structure CIn (h₀ : Heap) (L : Addr) (m : Str → Option Value) (I C D : Addr) (ys : List Value) (S : List (Addr × Obj) → Prop) (i : Nat) (St : Nat → Heap → Prop) (h : Heap) (news : List (Addr × Obj)) : Prop where
  st : St i h
  F : Fr h₀ L h m
  ns : ∃ m', h.Ns C m'
  N : News h₀ L h ((D, lst ys) :: news)
  off : Off3 I C D news
  src : S news
section
variable {prog : Program} {w : World} {A : Around} {E : Value → Shared → Prop} {s : Shared} {h₀ : Heap} {L : Addr} {m : Str → Option Value} {env : Env}
/-- a comprehension over a list, whose turns may leave more than the heap changed -/
theorem comp_block {elt iter : Expr} {x : Str} {px : Pos} {scope : Scope} {cl : List (Str × Addr)} {pos : Pos} {s₂ : Shared} {I : Addr} {fp : List Addr} {n : Nat} {P : Nat → Value → Prop} {St : Nat → Heap → Prop} {S : List (Addr × Obj) → Prop} {news : List (Addr × Obj)}
    {RR : Value → Addr → Result → Shared → Prop} (J : Nat → List Value → Shared → List (Addr × Obj) → Prop) (jh : ∀ i ys s' nw h tk, J i ys s' nw → J i ys { s' with heap := h, toks := tk } nw)
    (W : Walks prog w A I fp [I] n P St) (hsz : n ≤ sizeLine) (hIo : ∀ i h, St i h → ∃ o, h.get? I = some o)
    (hSt : ∀ i h h' o nw, St i h → h.get? I = some o → h'.get? I = some o → (∀ b o, h₀.get? b = some o → h'.get? b = some o) → News h₀ L h' nw → S nw → St i h')
    (hcell : ∀ y ∈ scope.names, y.2 ≠ .cell) (hkind : scope.kind = .function) (hx : scope.names.lookup x = some .local) (hst : St 0 s₂.heap) (hfp : ∀ b ∈ fp, b < s₂.heap.objs.size)
    (F : Fr h₀ L s₂.heap m) (N : News h₀ L s₂.heap news) (hIL : L ≠ I) (hI₀ : h₀.get? I = none) (off : ∀ p ∈ news, p.1 ≠ I) (hS : S news) (j0 : J 0 [] s₂ news)
    (step : ∀ i v ys s' nw I C D oI oC m₂ (E' : Value → Shared → Prop), i < n → P i v → ys.length = i → J i ys s' nw → NsObj oC m₂ → m₂ x = some v → Fr h₀ L s'.heap m → News h₀ L s'.heap ((I, oI) :: (C, oC) :: (D, lst ys) :: nw) → Off3 I C D nw → S nw → ((@Ne Nat I C) ∧ (@Ne Nat I D) ∧ (@Ne Nat C D)) →
      wpAny (model prog w) A (eval elt (compEnvC scope cl C env)) (fun y s'' => ∃ nw', Fr h₀ L s''.heap m ∧ News h₀ L s''.heap ((I, oI) :: (C, oC) :: (D, lst ys) :: nw') ∧ Off3 I C D nw' ∧ S nw' ∧ J (i + 1) (ys ++ [y]) s'' nw') E' s')
    (hRR : ∀ D C m' ys news' s', Fr h₀ L s'.heap m → News h₀ L s'.heap ((D, lst ys) :: news') → Off1 D news' → s'.heap.Ns C m' → h₀.get? C = none → h₀.get? D = none → C ≠ L → D ≠ L → C ≠ D → (∀ p ∈ news', p.1 ≠ C) → J n ys s' news' → RR (.ref D) C (.ok .next) s') :
    wpAny (model prog w) A (newList []) (fun acc s₃ => wpAny (model prog w) A (newFunctionEnv scope env.globals cl [] env.qual none .none (some env)) (fun cenv s₄ =>
      codeAny (model prog w) A (.compStart (.ListComp elt [⟨.Name x px, iter, [], 0⟩] scope pos) 0 (.ref I) acc { cenv with scope := relabel scope env }) (RR acc cenv.locals) s₄) E s₃) E s₂ := by
  refine wpAny_newObj_type (wpAny_newFunctionEnv hcell (by intro y hy; simp at hy) (fun h₁ hns₁ hsb₁ => ?_) hkind)
  dsimp only at hns₁ hsb₁ ⊢
  generalize hH2 : s₂.heap.push { cls := .type "list", dict := none, data := .seq ([] : List Value).toArray } = H2 at hns₁ hsb₁ ⊢
  have hC : H2.objs.size = s₂.heap.objs.size + 1 := by rw [← hH2, Heap.size_push]
  obtain ⟨D, hD⟩ : ∃ D, D = s₂.heap.objs.size := ⟨_, rfl⟩
  obtain ⟨C, hCe⟩ : ∃ C, C = H2.objs.size := ⟨_, rfl⟩
  rw [← hCe] at hC hns₁ hsb₁ ⊢
  rw [← hD] at hC ⊢
  have below : ∀ b, b < s₂.heap.objs.size → b ≠ C ∧ b ≠ D := fun b hb => ⟨by rw [hC, hD]; exact Nat.ne_of_lt (Nat.lt_succ_of_lt hb), by rw [hD]; exact Nat.ne_of_lt hb⟩
  have hDC : D ≠ C := by rw [hC]; exact Nat.ne_of_lt (Nat.lt_succ_self _)
  have hIf : I ∈ fp := W.sub I (List.mem_singleton.mpr rfl)
  have hIlt := hfp I hIf
  have old : ∀ b o, s₂.heap.get? b = some o → h₁.get? b = some o := fun b o e => hsb₁.extBut b o (below b (Heap.lt_size e)).1 (Heap.get?_push_of_some _ (hH2 ▸ Heap.get?_push_of_some _ e))
  have hacc : h₁.get? D = some (lst []) := hsb₁.extBut _ _ hDC (Heap.get?_push_of_some _ (by rw [← hH2, hD]; exact Heap.get?_push_size _ rfl))
  have fresh₀ : ∀ a, s₂.heap.objs.size ≤ a → h₀.get? a = none := fun a ha => by
    cases e : h₀.get? a with
    | none => rfl
    | some o' => exact absurd (Heap.lt_size (F.keep a o' e)) (Nat.not_lt.mpr ha)
  have hD₀ : h₀.get? D = none := fresh₀ _ (Nat.le_of_eq hD.symm)
  have hC₀ : h₀.get? C = none := fresh₀ _ (by rw [hC, hD]; exact Nat.le_succ _)
  have hDL : D ≠ L := Ne.symm (below L F.ns.lt).2
  have hCL : C ≠ L := Ne.symm (below L F.ns.lt).1
  have hCI : I ≠ C := (below I hIlt).1
  have hDI : I ≠ D := (below I hIlt).2
  have hDf : D ∉ fp := fun hm => (below _ (hfp _ hm)).2 rfl
  have hCf : C ∉ fp := fun hm => (below _ (hfp _ hm)).1 rfl
  have c0 : CIn h₀ L m I C D [] S 0 St h₁ news := ⟨W.frame _ _ _ hst fun b _ o e => old b o e, F.keeps old, ⟨_, hns₁⟩, fun p hp => by
    rcases List.mem_cons.mp hp with rfl | hp
    · exact ⟨hacc, hDL, hD₀⟩
    · exact ⟨old _ _ (N p hp).1, (N p hp).2⟩, Off3.of fun p hp => ⟨off p hp, (below _ (Heap.lt_size (N p hp).1)).1, (below _ (Heap.lt_size (N p hp).1)).2⟩, hS⟩
  have loop : ∀ s₃ : Shared, s₃ = { s₂ with heap := h₁, toks := s₂.toks + ([] : List (Str × Value)).length } →
      codeAny (model prog w) A (.compLoop (.ListComp elt [⟨.Name x px, iter, [], 0⟩] scope pos) 0 (.ref I) (.ref D) (compEnvC scope cl C env)) (RR (.ref D) C) s₃ := by
    rintro s₃ rfl
    refine codeAny_compLoop_tests (fun k s' => ∃ i ys nw, i ≤ n ∧ k = n + 1 - i ∧ ys.length = i ∧ CIn h₀ L m I C D ys S i St s'.heap nw ∧ J i ys s' nw) ?_ (n + 1) ⟨0, [], news, Nat.zero_le _, rfl, rfl, c0, jh _ _ _ _ _ _ j0⟩
    rintro k s' ⟨i, ys, nw, hi, rfl, hyl, ⟨st', F', ⟨m', hn'⟩, N', off', hS'⟩, hJ⟩
    have off3 := off'.mem
    by_cases hlt : i < n
    · refine W.item i _ _ _ hlt st' fun v h₂ tk₂ hPv hst₂ hk₂ => ?_
      refine wpAny_assign_Name (wpAny_storeName_local (lookup_relabel_local hx) (hn'.at' fun o e => hk₂ _ o (by simpa using Ne.symm hCI) e) (fun h₃ hn₃ hs₃ => ?_) (by simp [compEnvC, relabel, hkind]))
      refine wpAny_tests_nil ?_
      simp only [if_true]
      have hst₃ : St (i + 1) h₃ := W.frame _ _ _ hst₂ fun b hb o e => hs₃.extBut b o (fun q => hCf (by have q' : b = C := q; rw [← q']; exact hb)) e
      obtain ⟨oI, heI⟩ := hIo _ _ hst₃
      obtain ⟨oC, heC, hoC⟩ := ns_obj hn₃
      have F₃ : Fr h₀ L h₃ m := (fr_but F' hk₂ hIL hI₀).change hs₃ hCL hC₀
      have N₂ : News h₀ L h₂ ((D, lst ys) :: nw) := news_but N' hk₂ fun p hp => by
        rcases List.mem_cons.mp hp with rfl | hp
        · exact Ne.symm hDI
        · exact (off3 p hp).1
      have N₃ : News h₀ L h₃ ((I, oI) :: (C, oC) :: (D, lst ys) :: nw) := fun p hp => by
        rcases List.mem_cons.mp hp with rfl | hp
        · exact ⟨heI, Ne.symm hIL, hI₀⟩
        · rcases List.mem_cons.mp hp with rfl | hp
          · exact ⟨heC, hCL, hC₀⟩
          · have z := N₂ p hp
            refine ⟨hs₃.extBut _ _ ?_ z.1, z.2⟩
            rcases List.mem_cons.mp hp with rfl | hp
            · exact hDC
            · exact (off3 p hp).2.1
      refine wpAny_mono (step i v ys _ nw I C D oI oC _ _ hlt hPv hyl (jh _ _ _ _ h₃ _ hJ) hoC (by simp) F₃ N₃ off' hS' ⟨hCI, hDI, Ne.symm hDC⟩) (fun y s₄ h₄ => ?_) fun _ _ e => e
      obtain ⟨nw₄, F₄, N₄, off₄, hS₄, J₄⟩ := h₄
      have N₄' : News h₀ L s₄.heap nw₄ := fun p hp => N₄ p (List.mem_cons_of_mem _ (List.mem_cons_of_mem _ (List.mem_cons_of_mem _ hp)))
      have zD := (N₄ (D, lst ys) (List.mem_cons_of_mem _ (List.mem_cons_of_mem _ List.mem_cons_self))).1
      have hst₄ : St (i + 1) s₄.heap := hSt _ _ _ _ _ hst₃ heI (N₄ (I, oI) List.mem_cons_self).1 F₄.keep N₄' hS₄
      refine append_at (hsz := by show ys.toArray.size ≤ sizeLine; rw [List.size_toArray, hyl]; exact Nat.le_trans hi hsz) zD fun h₅ hs₅ hD₅ => ?_
      have off4 := off₄.mem
      refine ⟨n + 1 - (i + 1), by omega, i + 1, ys ++ [y], nw₄, hlt, rfl, by rw [List.length_append, List.length_singleton, hyl], ⟨W.frame _ _ _ hst₄ fun b hb o e => hs₅.extBut b o (fun q => hDf (q ▸ hb)) e, F₄.change hs₅ hDL hD₀,
        ⟨_, (hoC.ns (N₄ (C, oC) (List.mem_cons_of_mem _ List.mem_cons_self)).1).sameBut hs₅ (Ne.symm hDC)⟩, fun p hp => ?_, off₄, hS₄⟩, jh _ _ s₄ _ h₅ s₄.toks J₄⟩
      rcases List.mem_cons.mp hp with rfl | hp
      · exact ⟨hD₅.trans (congrArg some (lst_snoc ys y)), hDL, hD₀⟩
      · exact ⟨hs₅.extBut _ _ (off4 p hp).2.2 (N₄' p hp).1, (N₄' p hp).2⟩
    · obtain rfl : i = n := Nat.le_antisymm hi (Nat.not_lt.mp hlt)
      refine W.done _ _ _ st' fun h₂ tk₂ hk₂ => ?_
      exact hRR D C _ ys nw _ (fr_but F' hk₂ hIL hI₀) (news_but N' hk₂ fun p hp => by
        rcases List.mem_cons.mp hp with rfl | hp
        · exact Ne.symm hDI
        · exact (off3 p hp).1) off'.one (hn'.at' fun o e => hk₂ _ o (by simpa using Ne.symm hCI) e) hC₀ hD₀ hCL hDL (Ne.symm hDC) (fun p hp => (off3 p hp).2.1) (jh _ _ _ _ _ _ hJ)
  exact codeAny_compStart_list (loop _ rfl) (W.self 0 _ _ _ c0.st (loop _ rfl))
/-- a comprehension over a list, as a value -/
theorem comp_eval {elt iter : Expr} {x : Str} {px : Pos} {scope : Scope} {cl : List (Str × Addr)} {pos : Pos} {Q : Value → Shared → Prop} {r : Addr} {its : Array Value} {news : List (Addr × Obj)} (J : Nat → List Value → Shared → List (Addr × Obj) → Prop) (jh : ∀ i ys s' nw h tk, J i ys s' nw → J i ys { s' with heap := h, toks := tk } nw)
    (hh : A.handled = none) (F : Fr h₀ L s.heap m) (N : News h₀ L s.heap news) (S : SrcAt h₀ r its news) (hsz : its.size ≤ sizeLine) (hclos : closureFor scope env = pure cl) (hcell : ∀ y ∈ scope.names, y.2 ≠ .cell) (hkind : scope.kind = .function)
    (hnames : ∀ y ∈ scope.names, y.2 = .local → scope.names.lookup y.1 = some .local) (hx : scope.names.lookup x = some .local) (hi : ∀ Q' : Value → Shared → Prop, Q' (.ref r) s → wpAny (model prog w) A (eval iter env) Q' E s) (hs : ∀ x, foldedSetIterable iter env x = pure x) (j0 : J 0 [] s news)
    (step : ∀ i v ys s' nw I C D oI oC m₂ (E' : Value → Shared → Prop), i < its.size → its[i]? = some v → ys.length = i → J i ys s' nw → NsObj oC m₂ → m₂ x = some v → Fr h₀ L s'.heap m → News h₀ L s'.heap ((I, oI) :: (C, oC) :: (D, lst ys) :: nw) → Off3 I C D nw → SrcAt h₀ r its nw → ((@Ne Nat I C) ∧ (@Ne Nat I D) ∧ (@Ne Nat C D)) →
      wpAny (model prog w) A (eval elt (compEnvC scope cl C env)) (fun y s'' => ∃ nw', Fr h₀ L s''.heap m ∧ News h₀ L s''.heap ((I, oI) :: (C, oC) :: (D, lst ys) :: nw') ∧ Off3 I C D nw' ∧ SrcAt h₀ r its nw' ∧ J (i + 1) (ys ++ [y]) s'' nw') E' s')
    (fin : ∀ D ys nw s', Fr h₀ L s'.heap m → News h₀ L s'.heap ((D, lst ys) :: nw) → Off1 D nw → J its.size ys s' nw → Q (.ref D) s') :
    wpAny (model prog w) A (eval (.ListComp elt [⟨.Name x px, iter, [], 0⟩] scope pos) env) Q E s := by
  rw [eval_ListComp]
  refine wpAny_comprehension_free (use := none) rfl hs hclos hkind hnames (hi _ ?_)
  have hl := S.list F.keep N
  have hlt : r < s.heap.objs.size := by obtain ⟨_, e, _⟩ := hl; exact Heap.lt_size e
  refine wpAny_pyIter_list hl ?_
  have up : ∀ b o, s.heap.get? b = some o → (s.heap.push { cls := .type "list_iterator", data := .fields #[.ref r, .int 0 0] }).get? b = some o := fun b o e => Heap.get?_push_of_some _ e
  refine comp_block J jh (Walks.list hh s.heap.objs.size r (Nat.ne_of_lt hlt) its) hsz (fun i h st => by obtain ⟨o, e, _⟩ := st.1; exact ⟨o, e⟩) list_st hcell hkind hx ⟨⟨_, Heap.get?_push_size _ rfl, rfl, rfl⟩, hl.push _⟩ (fun b hb => ?_)
    (F.keeps up) (N.grown up) (Nat.ne_of_lt F.ns.lt) (next_is_new F) (fun p hp => Nat.ne_of_lt (Heap.lt_size (N p hp).1)) S (jh _ _ s _ _ s.toks j0) step ?_
  · show b < (s.heap.push _).objs.size
    rw [Heap.size_push]
    rcases List.mem_cons.mp hb with rfl | hb
    · exact Nat.lt_succ_self _
    · rw [List.mem_singleton.mp hb]; exact Nat.lt_succ_of_lt hlt
  · intro D C m' ys nw s' F' N' o1 hn hC₀ hD₀ hCL hDL hCD offC hJ
    refine ⟨m', hn, fun h'' hs'' => fin D ys nw _ (F'.change hs'' hCL hC₀) (fun p hp => ?_) o1 (jh _ _ s' _ h'' s'.toks hJ)⟩
    refine ⟨hs''.extBut _ _ ?_ (N' p hp).1, (N' p hp).2⟩
    rcases List.mem_cons.mp hp with rfl | hp
    · exact Ne.symm hCD
    · exact offC p hp
/-- `y = [.. for x in r]`: the comprehension stores the name itself -/
theorem comp_assign {elt iter : Expr} {x y : Str} {px py : Pos} {scope : Scope} {cl : List (Str × Addr)} {pos spos : Pos} {Q : Flow → Shared → Prop} {r : Addr} {its : Array Value} {news : List (Addr × Obj)} (J : Nat → List Value → Shared → List (Addr × Obj) → Prop) (jh : ∀ i ys s' nw h tk, J i ys s' nw → J i ys { s' with heap := h, toks := tk } nw)
    (hLe : env.locals = L) (hsw : swapsWith (.ListComp elt [⟨.Name x px, iter, [], 0⟩] scope pos) (some (.Name y py)) spos.line env = pure true) (hy : env.kindOf y = some .local) (hp : (env.scope.kind == .class || (env.scope.kind == .module && env.locals != env.globals)) = false)
    (hh : A.handled = none) (F : Fr h₀ L s.heap m) (N : News h₀ L s.heap news) (S : SrcAt h₀ r its news) (hsz : its.size ≤ sizeLine) (hclos : closureFor scope env = pure cl) (hcell : ∀ y ∈ scope.names, y.2 ≠ .cell) (hkind : scope.kind = .function)
    (hnames : ∀ y ∈ scope.names, y.2 = .local → scope.names.lookup y.1 = some .local) (hx : scope.names.lookup x = some .local) (hi : ∀ Q' : Value → Shared → Prop, Q' (.ref r) s → wpAny (model prog w) A (eval iter env) Q' E s) (hs : ∀ x, foldedSetIterable iter env x = pure x) (j0 : J 0 [] s news)
    (step : ∀ i v ys s' nw I C D oI oC m₂ (E' : Value → Shared → Prop), i < its.size → its[i]? = some v → ys.length = i → J i ys s' nw → NsObj oC m₂ → m₂ x = some v → Fr h₀ L s'.heap m → News h₀ L s'.heap ((I, oI) :: (C, oC) :: (D, lst ys) :: nw) → Off3 I C D nw → SrcAt h₀ r its nw → ((@Ne Nat I C) ∧ (@Ne Nat I D) ∧ (@Ne Nat C D)) →
      wpAny (model prog w) A (eval elt (compEnvC scope cl C env)) (fun y s'' => ∃ nw', Fr h₀ L s''.heap m ∧ News h₀ L s''.heap ((I, oI) :: (C, oC) :: (D, lst ys) :: nw') ∧ Off3 I C D nw' ∧ SrcAt h₀ r its nw' ∧ J (i + 1) (ys ++ [y]) s'' nw') E' s')
    (fin : ∀ D ys nw s', Fr h₀ L s'.heap (fun z => if z = y then some (.ref D) else m z) → News h₀ L s'.heap ((D, lst ys) :: nw) → Off1 D nw → J its.size ys s' nw → Q .next s') :
    wpAny (model prog w) A (exec (.Assign [.Name y py] (.ListComp elt [⟨.Name x px, iter, [], 0⟩] scope pos) spos) env) Q E s := by
  subst hLe
  rw [exec_Assign_Name_used _ _ _ _ hsw]
  refine wpAny_bind (wpAny_standAt (wpAny_bind ?_))
  show wpAny _ A (do let _ ← comprehension (.ListComp elt [⟨.Name x px, iter, [], 0⟩] scope pos) scope env _ (newList []) false (eval iter env) (some (assign (.Name y py) env))) _ _ s
  refine wpAny_bind (wpAny_mono (wpAny_comprehension_free (use := some (assign (.Name y py) env)) (Q := fun _ s' => Q .next s') rfl hs hclos hkind hnames (hi _ ?_)) (fun _ s' hq => wpAny_pure (wpAny_pure hq)) fun _ _ e => e)
  have hl := S.list F.keep N
  have hlt : r < s.heap.objs.size := by obtain ⟨_, e, _⟩ := hl; exact Heap.lt_size e
  refine wpAny_pyIter_list hl ?_
  have up : ∀ b o, s.heap.get? b = some o → (s.heap.push { cls := .type "list_iterator", data := .fields #[.ref r, .int 0 0] }).get? b = some o := fun b o e => Heap.get?_push_of_some _ e
  refine comp_block J jh (Walks.list hh s.heap.objs.size r (Nat.ne_of_lt hlt) its) hsz (fun i h st => by obtain ⟨o, e, _⟩ := st.1; exact ⟨o, e⟩) list_st hcell hkind hx ⟨⟨_, Heap.get?_push_size _ rfl, rfl, rfl⟩, hl.push _⟩ (fun b hb => ?_)
    (F.keeps up) (N.grown up) (Nat.ne_of_lt F.ns.lt) (next_is_new F) (fun p hp => Nat.ne_of_lt (Heap.lt_size (N p hp).1)) S (jh _ _ s _ _ s.toks j0) step ?_
  · show b < (s.heap.push _).objs.size
    rw [Heap.size_push]
    rcases List.mem_cons.mp hb with rfl | hb
    · exact Nat.lt_succ_self _
    · rw [List.mem_singleton.mp hb]; exact Nat.lt_succ_of_lt hlt
  · intro D C m' ys nw s' F' N' o1 hn hC₀ hD₀ hCL hDL hCD offC hJ
    show wpAny _ A (assign (.Name y py) env (.ref D)) _ _ _
    refine wpAny_assign_Name (wpAny_storeName_local hy F'.ns (fun h₂ hn₂ hs₂ => ?_) hp)
    have hL₀ : h₀.get? env.locals = none := Heap.get?_none_of_le F'.above
    have F₂ : Fr h₀ env.locals h₂ (fun z => if z = y then some (.ref D) else m z) := ⟨hn₂, fun b o e => hs₂.extBut b o (fun q => by rw [q, hL₀] at e; cases e) (F'.keep b o e), F'.above⟩
    refine ⟨m', hn.sameBut hs₂ hCL, fun h'' hs'' => fin D ys nw _ (F₂.change hs'' hCL hC₀) (fun p hp => ?_) o1 (jh _ _ s' _ h'' _ hJ)⟩
    have z : h₂.get? p.1 = some p.2 := hs₂.extBut _ _ (N' p hp).2.1 (N' p hp).1
    refine ⟨hs''.extBut _ _ ?_ z, (N' p hp).2⟩
    rcases List.mem_cons.mp hp with rfl | hp
    · exact Ne.symm hCD
    · exact offC p hp
end
end Mine

end
section
open PySem PySem.W PySem.Calls PyProof.Rows
set_option Elab.async false
set_option maxRecDepth 100000
set_option linter.unusedVariables false
set_option maxHeartbeats 1000000
namespace Mine
section
variable {w : World} {tp : Program} {loose : List Str} {mean : ExcName → Option Value} {mg mb : Str → Option Value} {base g : Heap} {outer : List Env} {s : Shared} {dp un : Nat} {gd : Option (List Code)} {A : Around} {E : Value → Shared → Prop}
/-- a def that makes new things only, called within a def's walk: all of the ledger is kept -/
theorem fresh_call {A₀ : Around} {env : Env} {L : Addr} {m : Str → Option Value} {news : List (Addr × Obj)} {Q : Value → Shared → Prop} {f : Value} {args : List Value} {kw : List (Str × Value)}
    (hA : A = AA dp un gd (env :: outer)) (hf : env.frame = some L) (hke : env.scope.kind = .function) (B : Below A₀ base outer g) (F : Fr g L s.heap m) (X : (KK w.params).In g) (N : News g L s.heap news) (T : Top tp loose mean mg mb g)
    (h : ∀ g', Below (AA dp un gd (env :: outer)) base (env :: outer) g' → (KK w.params).In g' → Top tp loose mean mg mb g' → Pre g' s.heap [] → (∀ b o, g.get? b = some o → g'.get? b = some o) → (∀ p ∈ news, g'.get? p.1 = some p.2) →
      (∀ h' fp', Pre g' h' fp' → Fr g L h' m ∧ News g L h' (fp' ++ news) ∧ ∀ p ∈ fp', ∀ q ∈ news, @Ne Nat p.1 q.1) →
      codeAny (model prg w) (AA dp un gd (env :: outer)) (.call f ⟨args, kw⟩) (fun r s' => match r with | .ok (.ret v) => Q v s' | .ok _ => False | .error e => E e s') s) :
    wpAny (model prg w) A (call f args kw) Q E s := by
  subst hA
  obtain ⟨g', B', X', T', P', FG, vis, back⟩ := under2 (A := AA dp un gd (env :: outer)) (fp := []) B F X N T rfl hf hke (fun _ h => nomatch h)
  refine wpAny_call (h g' B' X' T' P' FG.keep (fun p hp => vis p hp fun _ h => nomatch h) fun h' fp' p => ?_)
  obtain ⟨F', b⟩ := back h' fp' p
  refine ⟨F', b news fun q hq => ⟨hq, fun _ h => nomatch h⟩, fun q hq r hr z => ?_⟩
  have e1 := (p.own q hq).2
  have e2 := vis r hr fun _ h => nomatch h
  rw [z, e2] at e1; cases e1
theorem cmds_K {A₀ : Around} {env : Env} {L : Addr} {m : Str → Option Value} {news : List (Addr × Obj)} {Q : Value → Shared → Prop} {a : Addr} {us : List Value} {n : Nat} {xs : List Int}
    (hA : A = AA dp un gd (env :: outer)) (hf : env.frame = some L) (hke : env.scope.kind = .function) (B : Below A₀ base outer g) (F : Fr g L s.heap m) (X : (KK w.params).In g) (N : News g L s.heap news) (T : Top tp loose mean mg mb g)
    (hr : g.get? a = some (listOf us.toArray n)) (hI : IntsAre us xs) (hlen : xs.length ≤ 63) (hd : dp + 10 < recursionLimit) (hu : un + 100 < cLine)
    (h : ∀ C refs olds n h' tk', RefsAre olds refs (cmdsT (xs.take 16)) → (∀ p ∈ olds, @Ne Nat p.1 C) → (∀ p ∈ (C, listOf refs.toArray n) :: olds, ∀ q ∈ news, @Ne Nat p.1 q.1) → Fr g L h' m → News g L h' ((C, listOf refs.toArray n) :: (olds ++ news)) → Q (.ref C) { s with heap := h', toks := tk' }) :
    wpAny (model prg w) A (call (.ref 771) [.ref a]) Q E s :=
  fresh_call hA hf hke B F X N T fun g' B' X' T' P' hg hv back => cmds_c a us n xs (hg _ _ hr) hI hlen B' X' T' P' hd hu fun C refs olds n h' tk' e1 e2 p => by
    obtain ⟨F', N', d⟩ := back h' _ p
    exact h C refs olds n h' tk' e1 e2 d F' N'
theorem wrds_K {A₀ : Around} {env : Env} {L : Addr} {m : Str → Option Value} {news : List (Addr × Obj)} {Q : Value → Shared → Prop} {a : Addr} {us : List Value} {n ap : Nat} {xs : List Int} {t : Tok}
    (hA : A = AA dp un gd (env :: outer)) (hf : env.frame = some L) (hke : env.scope.kind = .function) (B : Below A₀ base outer g) (F : Fr g L s.heap m) (X : (KK w.params).In g) (N : News g L s.heap news) (T : Top tp loose mean mg mb g)
    (hr : g.get? a = some (listOf us.toArray n)) (hI : IntsAre us xs) (hlen : xs.length ≤ 63) (hd : dp + 10 < recursionLimit) (hu : un + 100 < cLine)
    (h : ∀ D vs k h' tk', StrsAre vs (wordsT ap (xs.take 16)) → (∀ q ∈ news, @Ne Nat D q.1) → Fr g L h' m → News g L h' ((D, listOf vs.toArray k) :: news) → Q (.ref D) { s with heap := h', toks := tk' }) :
    wpAny (model prg w) A (call (.ref 778) [.ref a, .str ⟨#[ap]⟩ t]) Q E s :=
  fresh_call hA hf hke B F X N T fun g' B' X' T' P' hg hv back => wrds_c a us n xs ap t (hg _ _ hr) hI hlen B' X' T' P' hd hu fun D vs k h' tk' e1 p => by
    obtain ⟨F', N', d⟩ := back h' _ p
    exact h D vs k h' tk' e1 (d _ (.head _)) F' N'
theorem parse_K {A₀ : Around} {env : Env} {L : Addr} {m : Str → Option Value} {news : List (Addr × Obj)} {Q : Value → Shared → Prop} {x : Str} {t : Tok}
    (hA : A = AA dp un gd (env :: outer)) (hf : env.frame = some L) (hke : env.scope.kind = .function) (B : Below A₀ base outer g) (F : Fr g L s.heap m) (X : (KK w.params).In g) (N : News g L s.heap news) (T : Top tp loose mean mg mb g)
    (hx : x.length ≤ 2000) (hd : dp + 2 < recursionLimit) (hu : un + 20 < cLine)
    (h : ∀ D vs h' tk', StrsAre vs (parseT x) → (∀ q ∈ news, @Ne Nat D q.1) → Fr g L h' m → News g L h' ((D, LCg.lst vs) :: news) → Q (.ref D) { s with heap := h', toks := tk' }) :
    wpAny (model prg w) A (call (.ref 764) [.str x t]) Q E s :=
  fresh_call hA hf hke B F X N T fun g' B' X' T' P' hg hv back => parse_c x t hx B' X' T' P' hd hu fun D vs h' tk' e1 p => by
    obtain ⟨F', N', d⟩ := back h' _ p
    exact h D vs h' tk' e1 (d _ (.head _)) F' N'
end
end Mine

end
section
open PySem PySem.W PySem.Calls PyProof.Rows PyProof.Rows.LCg
set_option Elab.async false
set_option maxRecDepth 100000
set_option linter.unusedVariables false
set_option maxHeartbeats 1000000
namespace Mine
theorem fillK_Lb : (PySem.Challenge.rw_mq0407_01 = PySem.Challenge.rw_mq0407_01) ∧ KK = KK := by
  k_fill
  exact ⟨rfl, rfl⟩
section
variable {w : World} {tp : Program} {loose : List Str} {mean : ExcName → Option Value} {mg mb : Str → Option Value} {base g : Heap} {outer : List Env} {s : Shared} {dp un : Nat} {gd : Option (List Code)} {A : Around} {E : Value → Shared → Prop}
/-- join called within a def's walk -/
theorem join_K2 {A₀ : Around} {env : Env} {L : Addr} {m : Str → Option Value} {news rest : List (Addr × Obj)} {Q : Value → Shared → Prop} {r : Addr} {us : List Value} {k : Nat} {ss : List Str} {ps : Array Value}
    (hA : A = AA dp un gd (env :: outer)) (hf : env.frame = some L) (hke : env.scope.kind = .function) (B : Below A₀ base outer g) (F : Fr g L s.heap m) (X : (KK w.params).In g) (N : News g L s.heap news) (T : Top tp loose mean mg mb g)
    (hj : (746, JT ps) ∈ news) (hrest : ∀ p ∈ rest, p ∈ news ∧ @Ne Nat p.1 746) (hr : (r, listOf us.toArray k) ∈ rest) (htr : TriplesOk ps.toList) (hS : StrsAre us ss) (h1 : ss.length ≤ 500) (h2 : ∀ y ∈ ss, y.length ≤ 300) (hb : AllBare s.gens)
    (hd : dp + 6 < recursionLimit) (hu : un + 60 < cLine)
    (h : ∀ t' more (s' : Shared), Fr g L s'.heap m → News g L s'.heap ((746, JT (ps ++ more)) :: rest) → TriplesOk (ps ++ more).toList → AllBare s'.gens → s'.os = s.os → Q (.str (joinT ss) t') s') :
    wpAny (model prg w) A (call (.ref 751) [.ref r]) Q E s := by
  subst hA
  obtain ⟨g', B', X', T', P', FG, vis, back⟩ := under2 (A := AA dp un gd (env :: outer)) (fp := [(746, JT ps)]) B F X N T rfl hf hke (fun p h => by rw [List.mem_singleton.mp h]; exact hj)
  have off : ∀ p ∈ rest, ∀ q ∈ [((746 : Addr), JT ps)], p.1 ≠ q.1 := fun p hp q hq => by rw [List.mem_singleton.mp hq]; exact (hrest p hp).2
  refine wpAny_call (join_c r us k ss ps B' X' T' P' htr (vis _ (hrest _ hr).1 (off _ hr)) hS h1 h2 hb hd hu fun t' more s' p htr' hb' ho' => ?_)
  obtain ⟨F', b⟩ := back s'.heap _ p
  exact h t' more s' F' (b rest fun p hp => ⟨(hrest p hp).1, off p hp⟩) htr' hb' ho'
theorem refs_at {olds : List (Addr × Obj)} : ∀ {refs : List Value} {T : List (List Str)}, RefsAre olds refs T → ∀ (i : Nat) (v : Value), refs[i]? = some v → ∃ (b : Addr) (us : List Value) (n : Nat) (ws : List Str), v = Value.ref b ∧ (b, listOf us.toArray n) ∈ olds ∧ StrsAre us ws ∧ T[i]? = some ws
  | _, _, .nil, i, v => fun h => by simp at h
  | _, _, .cons a b c, 0, v => fun h => by
    obtain rfl := Option.some.inj h
    exact ⟨_, _, _, _, rfl, a, b, rfl⟩
  | _, _, .cons a b c, i + 1, v => fun h => refs_at c i v (by simpa using h)
theorem off1_mem {D : Addr} : ∀ {l : List (Addr × Obj)}, Off1 D l → ∀ p ∈ l, @Ne Nat p.1 D
  | [], _ => fun _ h => nomatch h
  | _ :: _, ⟨a, b⟩ => fun p h => by
    rcases List.mem_cons.mp h with rfl | h
    · exact a
    · exact off1_mem b p h
/-- `lines = [join_shlex(command) for command in commands]` -/
theorem lines_K {A₀ : Around} {name : Str} {sc cs : Scope} {f L C : Addr} {cd : Value} {m : Str → Option Value} {Q : Flow → Shared → Prop} {refs : List Value} {n : Nat} {T₀ : List (List Str)} {olds : List (Addr × Obj)} {ps : Array Value} {x y : Str} {p1 p2 p3 px py p5 spos pos : Pos}
    (hA : A = AA dp un gd (envOf name sc L f cd :: outer)) (B : Below A₀ base outer g) (F : Fr g L s.heap m) (X : (KK w.params).In g) (N : News g L s.heap ((C, listOf refs.toArray n) :: (olds ++ [(746, JT ps)]))) (T : Top tp loose mean mg mb g)
    (hR : RefsAre olds refs T₀) (hCj : @Ne Nat C 746) (hoj : ∀ p ∈ olds, @Ne Nat p.1 746) (htr : TriplesOk ps.toList) (hb : AllBare s.gens) (hw : ∀ ws ∈ T₀, ws.length ≤ 500 ∧ ∀ y ∈ ws, y.length ≤ 300) (hl : T₀.length ≤ 500) (hd : dp + 6 < recursionLimit) (hu : un + 60 < cLine)
    (hk : sc.kind = .function) (hm : m x = some (.ref C)) (hc : (envOf name sc L f cd).kindOf x = some .local) (hx : (x == ("__debug__" : Str)) = false)
    (hsw : swapsWith (.ListComp (.Call (.Name (Str.ofString "join_shlex") p1) [.Name (Str.ofString "command") p2] [] p3) [⟨.Name (Str.ofString "command") px, .Name x p5, [], 0⟩] cs pos) (some (.Name y py)) spos.line (envOf name sc L f cd) = pure true) (hy : (envOf name sc L f cd).kindOf y = some .local)
    (hclos : closureFor cs (envOf name sc L f cd) = pure []) (hcell : ∀ y ∈ cs.names, y.2 ≠ .cell) (hkind : cs.kind = .function) (hnames : ∀ y ∈ cs.names, y.2 = .local → cs.names.lookup y.1 = some .local) (hxl : cs.names.lookup (Str.ofString "command") = some .local)
    (hs : ∀ z, foldedSetIterable (.Name x p5) (envOf name sc L f cd) z = pure z)
    (hl1 : ∀ C, (compEnvC cs [] C (envOf name sc L f cd)).kindOf (Str.ofString "command") = some .local) (hl2 : ∀ C, (compEnvC cs [] C (envOf name sc L f cd)).kindOf (Str.ofString "join_shlex") = some .globalImplicit) (hk2 : ∀ C, (compEnvC cs [] C (envOf name sc L f cd)).scope.kind = .function)
    (hbk : ∀ C, backTo p3 (starEach [.Name (Str.ofString "command") p2] (compEnvC cs [] C (envOf name sc L f cd))) = [(false, eval (.Name (Str.ofString "command") p2) (compEnvC cs [] C (envOf name sc L f cd)))])
    (h : ∀ D vs ps' (s' : Shared), StrsAre vs (T₀.map joinT) → Fr g L s'.heap (fun z => if z = y then some (.ref D) else m z) → News g L s'.heap ((D, lst vs) :: (C, listOf refs.toArray n) :: (olds ++ [(746, JT ps')])) → (∀ p ∈ (C, listOf refs.toArray n) :: (olds ++ [(746, JT ps')]), @Ne Nat p.1 D) → TriplesOk ps'.toList → AllBare s'.gens → s'.os = s.os → Q .next s') :
    wpAny (model prg w) A (exec (.Assign [.Name y py] (.ListComp (.Call (.Name (Str.ofString "join_shlex") p1) [.Name (Str.ofString "command") p2] [] p3) [⟨.Name (Str.ofString "command") px, .Name x p5, [], 0⟩] cs pos) spos) (envOf name sc L f cd)) Q E s := by
  have hlen := hR.length
  have hh : A.handled = none := by rw [hA]
  refine comp_assign (fun i ys s' nw => ∃ ps', nw = (C, listOf refs.toArray n) :: (olds ++ [(746, JT ps')]) ∧ TriplesOk ps'.toList ∧ AllBare s'.gens ∧ s'.os = s.os ∧ StrsAre ys ((T₀.take i).map joinT)) (fun i ys s' nw h tk j => j) rfl hsw hy (by show (sc.kind == .class || (sc.kind == .module && _)) = false; rw [hk]; rfl)
    hh F N (.inr ⟨_, .head _, rfl, n, rfl⟩) (by rw [List.size_toArray, hlen]; exact Nat.le_trans hl (by decide)) hclos hcell hkind hnames hxl (fun Q' hQ => ld F hm hQ hk hc hx) hs ⟨ps, rfl, htr, hb, rfl, .nil⟩ ?_ ?_
  · rintro i v ys s' nw I C' D oI oC m₂ E' hi hv hyl ⟨ps', rfl, htr', hb', ho', hS'⟩ hoC hm₂ F' N' off src ⟨n1, n2, n3⟩
    obtain ⟨b, us, k, ws, rfl, hbo, hSw, hTi⟩ := refs_at hR i v (by simpa using hv)
    obtain ⟨w1, w2⟩ := hw ws (List.mem_of_getElem? hTi)
    have e : mg (Str.ofString "join_shlex") = some (.ref 751) := mg_of X T.g (by k_is)
    obtain ⟨oQ, ho, fd, hfd⟩ : ∃ o, (KK w.params).lookup 751 = some o ∧ ∃ fd, o.data = .func fd := by
      k_dflt (refine' is_fn ?k1; (case k1 => k_is))
    have o3 := off.mem
    have j3 := o3 (746, JT ps') (.tail _ (List.mem_append_right _ (.head _)))
    have hn := hoC.ns (N' (C', oC) (.tail _ (.head _))).1
    refine wpAny_Call_NameR (Name_function_global (hk2 C') (hl2 C') (loadGlobal_global (env := compEnvC cs [] C' (envOf name sc L f cd)) (T.g.keeps F'.keep) e ?_) (by decide))
    rw [hbk]
    refine callWith_function_kw (evalArgs_plain (spliced_cons (ldVarK hn hm₂ (spliced_nil ⟨⟨F'.keep _ _ (X _ _ ho), hfd⟩, ?_⟩) (hk2 _) (hl1 _) (by decide))))
    refine join_K2 (k := k) (rest := (I, oI) :: (C', oC) :: (D, lst ys) :: (C, listOf refs.toArray n) :: olds) hA (L := L) rfl hk B F' X N' T ?_ ?_ ?_ htr' hSw w1 w2 hb' hd hu fun t' more s'' F'' N'' htr'' hb'' ho'' => ?_
    · simp
    · intro p hp
      simp only [List.mem_cons] at hp
      refine ⟨by rcases hp with rfl | rfl | rfl | rfl | hp <;> simp [*], ?_⟩
      rcases hp with rfl | rfl | rfl | rfl | hp
      · exact Ne.symm j3.1
      · exact Ne.symm j3.2.1
      · exact Ne.symm j3.2.2
      · exact hCj
      · exact hoj p hp
    · simp [hbo]
    · refine ⟨(C, listOf refs.toArray n) :: (olds ++ [(746, JT (ps' ++ more))]), F'', ?_, ?_, .inr ⟨_, .head _, rfl, n, rfl⟩, _, rfl, htr'', hb'', ho''.trans ho', ?_⟩
      · intro p hp
        refine N'' p ?_
        simp only [List.mem_cons, List.mem_append, List.not_mem_nil, or_false] at hp ⊢
        rcases hp with rfl | rfl | rfl | rfl | hp | rfl <;> simp [*]
      · refine Off3.of fun p hp => ?_
        simp only [List.mem_cons, List.mem_append, List.not_mem_nil, or_false] at hp
        rcases hp with rfl | hp | rfl
        · exact o3 _ (.head _)
        · exact o3 p (.tail _ (List.mem_append_left _ hp))
        · exact j3
      · rw [List.take_add_one, hTi, List.map_append]
        exact StrsAre.append' hS' (StrsAre.cons _ _ StrsAre.nil)
  · rintro D ys nw s' F' N' off ⟨ps', rfl, htr', hb', ho', hS'⟩
    rw [List.size_toArray, hlen, List.take_length] at hS'
    exact h D ys ps' s' hS' F' N' (off1_mem off) htr' hb' ho'
theorem strs_at {us : List Value} {ss : List Str} (h : StrsAre us ss) {i : Nat} {v : Value} (e : us[i]? = some v) : ∃ y t, v = Value.str y t ∧ ss[i]? = some y := StrsAre.item h i v e
/-- `[split(line) for line in told]` -/
theorem splits_K {A₀ : Around} {name : Str} {sc cs : Scope} {f L C : Addr} {cd : Value} {m : Str → Option Value} {Q : Value → Shared → Prop} {vs : List Value} {n : Nat} {T₀ : List (List Str)} {news : List (Addr × Obj)} {x : Str} {p1 p2 p3 px p5 pos : Pos}
    (hA : A = AA dp un gd [envOf name sc L f cd]) (B : Below A₀ base [] g) (F : Fr g L s.heap m) (X : (KK w.params).In g) (N : News g L s.heap news) (T : Top tp loose mean mg mb g) (hC : (C, listOf vs.toArray n) ∈ news)
    (hS : StrsAre vs (T₀.map joinT)) (hb : AllBare s.gens) (hw : ∀ ws ∈ T₀, ws.length ≤ 500 ∧ (joinT ws).length ≤ 2000) (hl : T₀.length ≤ 500) (hd : dp + 60 < recursionLimit) (hu : un + 600 < cLine)
    (hk : sc.kind = .function) (hm : m x = some (.ref C)) (hc : (envOf name sc L f cd).kindOf x = some .local) (hx : (x == ("__debug__" : Str)) = false)
    (hclos : closureFor cs (envOf name sc L f cd) = pure []) (hcell : ∀ y ∈ cs.names, y.2 ≠ .cell) (hkind : cs.kind = .function) (hnames : ∀ y ∈ cs.names, y.2 = .local → cs.names.lookup y.1 = some .local) (hxl : cs.names.lookup (Str.ofString "line") = some .local)
    (hs : ∀ z, foldedSetIterable (.Name x p5) (envOf name sc L f cd) z = pure z)
    (hl1 : ∀ C, (compEnvC cs [] C (envOf name sc L f cd)).kindOf (Str.ofString "line") = some .local) (hl2 : ∀ C, (compEnvC cs [] C (envOf name sc L f cd)).kindOf (Str.ofString "split") = some .globalImplicit) (hk2 : ∀ C, (compEnvC cs [] C (envOf name sc L f cd)).scope.kind = .function)
    (hbk : ∀ C, backTo p3 (starEach [.Name (Str.ofString "line") p2] (compEnvC cs [] C (envOf name sc L f cd))) = [(false, eval (.Name (Str.ofString "line") p2) (compEnvC cs [] C (envOf name sc L f cd)))])
    (h : ∀ D refs made (s' : Shared), RefsAre made refs T₀ → Fr g L s'.heap m → News g L s'.heap ((D, lst refs) :: (made ++ news)) → AllBare s'.gens → s'.os = s.os → Q (.ref D) s') :
    wpAny (model prg w) A (eval (.ListComp (.Call (.Name (Str.ofString "split") p1) [.Name (Str.ofString "line") p2] [] p3) [⟨.Name (Str.ofString "line") px, .Name x p5, [], 0⟩] cs pos) (envOf name sc L f cd)) Q E s := by
  have hlen : vs.length = T₀.length := by rw [StrsAre.length hS, List.length_map]
  have hh : A.handled = none := by rw [hA]
  refine comp_eval (fun i ys s' nw => ∃ made, nw = made ++ news ∧ RefsAre made ys (T₀.take i) ∧ AllBare s'.gens ∧ s'.os = s.os) (fun i ys s' nw h tk j => j)
    hh F N (.inr ⟨_, hC, rfl, n, rfl⟩) (by rw [List.size_toArray, hlen]; exact Nat.le_trans hl (by decide)) hclos hcell hkind hnames hxl (fun Q' hQ => ld F hm hQ hk hc hx) hs ⟨[], rfl, .nil, hb, rfl⟩ ?_ ?_
  · rintro i v ys s' nw I C' D oI oC m₂ E' hi hv hyl ⟨made, rfl, hR', hb', ho'⟩ hoC hm₂ F' N' off src ⟨n1, n2, n3⟩
    obtain ⟨y, t, rfl, hyi⟩ := strs_at hS (by simpa using hv)
    rw [List.getElem?_map] at hyi
    obtain ⟨ws, hTi, rfl⟩ := Option.map_eq_some_iff.mp hyi
    obtain ⟨w1, w2⟩ := hw ws (List.mem_of_getElem? hTi)
    have e : mg (Str.ofString "split") = some (.ref 744) := mg_of X T.g (by k_is)
    obtain ⟨oQ, ho, fd, hfd⟩ : ∃ o, (KK w.params).lookup 744 = some o ∧ ∃ fd, o.data = .func fd := by
      k_dflt (refine' is_fn ?k1; (case k1 => k_is))
    have o3 := off.mem
    have hn := hoC.ns (N' (C', oC) (.tail _ (.head _))).1
    refine wpAny_Call_NameR (Name_function_global (hk2 C') (hl2 C') (loadGlobal_global (env := compEnvC cs [] C' (envOf name sc L f cd)) (T.g.keeps F'.keep) e ?_) (by decide))
    rw [hbk]
    refine callWith_function_kw (evalArgs_plain (spliced_cons (ldVarK hn hm₂ (spliced_nil ⟨⟨F'.keep _ _ (X _ _ ho), hfd⟩, ?_⟩) (hk2 _) (hl1 _) (by decide))))
    refine split_K hA (L := L) rfl hk B F' X N' T w2 (lexes_join ws) (Nat.le_trans w1 (by decide)) hd hu fun S us k h' tk' hSu hne F'' N'' => ?_
    have a1 := hne _ (.head _)
    have a2 := hne _ (.tail _ (.head _))
    have a3 := hne _ (.tail _ (.tail _ (.head _)))
    refine ⟨(S, listOf us.toArray k) :: made ++ news, F'', ?_, ?_, ?_, _, rfl, ?_, hb', ho'⟩
    · intro p hp
      refine N'' p ?_
      simp only [List.mem_cons, List.mem_append, List.cons_append] at hp ⊢
      rcases hp with rfl | rfl | rfl | rfl | hp | hp <;> simp [*]
    · refine Off3.of fun p hp => ?_
      rcases List.mem_cons.mp hp with rfl | hp
      · exact ⟨Ne.symm a1, Ne.symm a2, Ne.symm a3⟩
      · exact o3 p hp
    · exact .inr ⟨_, List.mem_append_right _ hC, rfl, n, rfl⟩
    · rw [List.take_add_one, hTi]
      exact RefsAre.snoc (.head _) hSu (hR'.mono fun p hp => .tail _ hp)
  · rintro D ys nw s' F' N' off ⟨made, rfl, hR', hb', ho'⟩
    rw [List.size_toArray, hlen, List.take_length] at hR'
    exact h D ys made s' hR' F' N' hb' ho'
end
end Mine

end
section
open PySem PySem.W PySem.Calls PyProof.Rows PyProof.Rows.LCg PySem.SeqAt
set_option Elab.async false
set_option maxRecDepth 100000
set_option linter.unusedVariables false
set_option maxHeartbeats 1000000
namespace Mine
section
variable {prog : Program} {w : World} {A : Around} {E : Value → Shared → Prop} {s : Shared} {Q : Value → Shared → Prop} {a b : Addr}
theorem strs_eqat {us vs : List Value} {ss : List Str} (h1 : StrsAre us ss) (h2 : StrsAre vs ss) (j : Nat) (l1 : j < us.toArray.size) (l2 : j < vs.toArray.size) : EqAt A s us.toArray[j] vs.toArray[j] true := by
  obtain ⟨y, t, e1, f1⟩ := strs_at h1 (i := j) (v := us.toArray[j]) (by simp)
  obtain ⟨z, u, e2, f2⟩ := strs_at h2 (i := j) (v := vs.toArray[j]) (by simp)
  rw [e1, e2]
  rw [f1] at f2
  obtain rfl := Option.some.inj f2
  have := EqAt.str_str (A := A) (s := s) y t y u
  rwa [beq_self_eq_true] at this
theorem all_true (n : Nat) : (List.range n).all (fun _ => true) = true := by simp
theorem eq_strs {us vs : List Value} {ss : List Str} (ha : s.heap.IsList a us.toArray) (hb : s.heap.IsList b vs.toArray) (h1 : StrsAre us ss) (h2 : StrsAre vs ss) (hu : A.units < cLine) (h : Q (.bool true) s) : wpAny (model prog w) A (compareOp .Eq (.ref a) (.ref b)) Q E s :=
  eq_listAt (e := fun _ => true) ha hb (by simp [h1.length, h2.length]) hu (strs_eqat h1 h2) (by rw [all_true]; exact h)
theorem ne_strs {us vs : List Value} {ss : List Str} (ha : s.heap.IsList a us.toArray) (hb : s.heap.IsList b vs.toArray) (h1 : StrsAre us ss) (h2 : StrsAre vs ss) (hu : A.units < cLine) (h : Q (.bool false) s) : wpAny (model prog w) A (compareOp .NotEq (.ref a) (.ref b)) Q E s :=
  RcNeAt.lists (e := fun _ => true) ha hb (by simp [h1.length, h2.length]) hu (strs_eqat h1 h2) prog w E Q (by rw [all_true]; exact h)
theorem ne_refs {us vs : List Value} {T : List (List Str)} {o1 o2 : List (Addr × Obj)} (ha : s.heap.IsList a us.toArray) (hb : s.heap.IsList b vs.toArray) (h1 : RefsAre o1 us T) (h2 : RefsAre o2 vs T) (k1 : ∀ p ∈ o1, s.heap.get? p.1 = some p.2) (k2 : ∀ p ∈ o2, s.heap.get? p.1 = some p.2) (hu : A.units + 2 < cLine) (h : Q (.bool false) s) :
    wpAny (model prog w) A (compareOp .NotEq (.ref a) (.ref b)) Q E s := by
  refine RcNeAt.lists (e := fun _ => true) ha hb (by simp [h1.length, h2.length]) (by omega) (fun j l1 l2 => ?_) prog w E Q (by rw [all_true]; exact h)
  obtain ⟨c, cs, n, ws, e1, m1, s1, f1⟩ := refs_at h1 j us.toArray[j] (by simp)
  obtain ⟨d, ds, k, zs, e2, m2, s2, f2⟩ := refs_at h2 j vs.toArray[j] (by simp)
  rw [e1, e2]
  rw [f1] at f2
  obtain rfl := Option.some.inj f2
  by_cases hcd : c = d
  · subst hcd; exact EqAt.same _
  · refine EqAt.of_refs hcd ?_
    have := RcAt.lists (A := A.in1) (s := s) (e := fun _ => true) (l := c) (b := d) (items := cs.toArray) (items2 := ds.toArray) ⟨_, k1 _ m1, rfl, n, rfl⟩ ⟨_, k2 _ m2, rfl, k, rfl⟩ (by simp [s1.length, s2.length]) (by show A.units + 1 < cLine; omega) (strs_eqat s1 s2)
    rwa [all_true] at this
end
end Mine

end
section
open PySem PySem.W PySem.Calls PyProof.Rows PyProof.Rows.LCg
set_option Elab.async false
set_option maxRecDepth 100000
set_option linter.unusedVariables false
set_option maxHeartbeats 1000000
namespace Mine
theorem fillK_Lf : (PySem.Challenge.rw_mq0407_01 = PySem.Challenge.rw_mq0407_01) ∧ KK = KK := by
  k_fill
  exact ⟨rfl, rfl⟩
theorem refs_split {olds : List (Addr × Obj)} {c : List Str} : ∀ {refs : List Value} {T : List (List Str)}, RefsAre olds refs (T ++ [c]) → ∃ rs b us n, refs = rs ++ [Value.ref b] ∧ (b, listOf us.toArray n) ∈ olds ∧ StrsAre us c ∧ RefsAre olds rs T
  | _, [], .cons a s .nil => ⟨[], _, _, _, rfl, a, s, .nil⟩
  | _, t :: T, .cons a s r => by
    obtain ⟨rs, b, us, n, rfl, h1, h2, h3⟩ := refs_split (T := T) r
    exact ⟨_ :: rs, b, us, n, rfl, h1, h2, .cons a s h3⟩
section
variable {w : World} {tp : Program} {loose : List Str} {mean : ExcName → Option Value} {mg mb : Str → Option Value} {base g : Heap} {outer : List Env} {s : Shared} {dp un : Nat} {gd : Option (List Code)} {R : Result → Shared → Prop} {A : Around} {E : Value → Shared → Prop}
/-- the law's start: the commands made -/
theorem cmds_L {A₀ : Around} {env : Env} {L : Addr} {m : Str → Option Value} {ps : Array Value} {Q : Value → Shared → Prop} {a : Addr} {us : List Value} {n : Nat} {xs : List Int}
    (hA : A = AA dp un gd (env :: outer)) (hf : env.frame = some L) (hke : env.scope.kind = .function) (B : Below A₀ base outer g) (F : Fr g L s.heap m) (X : (KK w.params).In g) (N : News g L s.heap [(746, JT ps)]) (T : Top tp loose mean mg mb g)
    (hr : g.get? a = some (listOf us.toArray n)) (hI : IntsAre us xs) (hlen : xs.length ≤ 63) (hd : dp + 10 < recursionLimit) (hu : un + 100 < cLine)
    (h : ∀ C rs b bs k olds n h' tk', RefsAre olds (rs ++ [Value.ref b]) (cmdsT (xs.take 16)) → (b, listOf bs.toArray k) ∈ olds → StrsAre bs (closeC (crun (xs.take 16))) → RefsAre olds rs (crun (xs.take 16)).old → rs.length ≤ 16 → @Ne Nat C 746 → (∀ p ∈ olds, @Ne Nat p.1 746) → Fr g L h' m → News g L h' ((746, JT ps) :: (C, listOf (rs ++ [Value.ref b]).toArray n) :: olds) → Q (.ref C) { s with heap := h', toks := tk' }) :
    wpAny (model prg w) A (call (.ref 771) [.ref a]) Q E s := by
  refine cmds_K hA hf hke B F X N T hr hI hlen hd hu fun C refs olds n h' tk' hR hoC hne F' N' => ?_
  have hR' := hR
  unfold cmdsT at hR'
  obtain ⟨rs, b, bs, k, rfl, hb, hS, hRs⟩ := refs_split hR'
  have hc := (crun_sizes (xs.take 16)).1
  refine h C rs b bs k olds n h' tk' hR hb hS hRs ?_ (hne _ (.head _) _ (.head _)) (fun p hp => hne p (.tail _ hp) _ (.head _)) F' fun p hp => N' p ?_
  · rw [hRs.length]
    have := List.length_take_le 16 xs
    omega
  · simp only [List.mem_cons, List.mem_append, List.not_mem_nil, or_false] at hp ⊢
    rcases hp with rfl | rfl | hp <;> simp [*]
end
end Mine

end
section
open PySem PySem.W PySem.Calls PyProof.Rows PyProof.Rows.LCg
set_option Elab.async false
set_option maxRecDepth 100000
set_option linter.unusedVariables false
set_option maxHeartbeats 1000000
namespace Mine
/-- the gap's text -/
def GapOk (xs : List Int) (gp : Str) : Prop := ∃ g, gp = Str.ofString "," ++ g ∧ (g = Str.ofString "" ∨ g = Str.ofString " ") ∧ (g = Str.ofString " " → xs ≠ [])
/-- the commands due -/
def dueT (gp : Str) (xs : List Int) : List (List Str) := if gp = Str.ofString "," ∧ closeC (crun xs) = [] then (crun xs).old else cmdsT xs
theorem gap_len {xs : List Int} {gp : Str} (h : GapOk xs gp) : gp.cps.toList.length ≤ 2 := by
  obtain ⟨g, rfl, h | h, _⟩ := h <;> subst h <;> decide
theorem gap_len' {xs : List Int} {gp : Str} (h : GapOk xs gp) : gp.length ≤ 16 := by
  have := gap_len h
  have e : gp.length = gp.cps.toList.length := by show gp.cps.size = _; simp
  omega
theorem told_due {xs : List Int} {gp : Str} (h : GapOk xs gp) : parseT (Txt.join gp ((cmdsT xs).map joinT)) = (dueT gp xs).map joinT := by
  obtain ⟨g, rfl, h1, h2⟩ := h
  rw [law_cmds xs h1 h2]
  have e1 : (Str.ofString "," ++ g = Str.ofString ",") ↔ g = Str.ofString "" := by
    rcases h1 with h | h <;> subst h <;> decide
  have e2 : (cmdsT xs).getLast (by unfold cmdsT; simp) = closeC (crun xs) := by unfold cmdsT; simp
  have e3 : (cmdsT xs).dropLast = (crun xs).old := by unfold cmdsT; simp
  unfold dueT
  rw [e2, e3]
  congr 1
  by_cases c : g = Str.ofString "" ∧ closeC (crun xs) = []
  · rw [if_pos c, if_pos ⟨e1.mpr c.1, c.2⟩]
  · rw [if_neg c, if_neg fun z => c ⟨e1.mp z.1, z.2⟩]
theorem due_pre (gp : Str) (xs : List Int) : ∃ r, cmdsT xs = dueT gp xs ++ r := by
  unfold dueT
  split
  · exact ⟨[closeC (crun xs)], rfl⟩
  · exact ⟨[], by simp⟩
theorem due_take (gp : Str) (xs : List Int) : ((cmdsT xs).map joinT).take (dueT gp xs).length = (dueT gp xs).map joinT := by
  obtain ⟨r, e⟩ := due_pre gp xs
  rw [e, List.map_append]
  rw [List.take_append_of_le_length (by simp)]
  exact List.take_of_length_le (by simp)
theorem str_len (x : Str) : x.length = x.cps.toList.length := by show x.cps.size = _; simp
theorem cmd_all {xs : List Int} (hx : xs.length ≤ 16) : ∀ ws ∈ cmdsT xs, (ws.length ≤ 500 ∧ ∀ y ∈ ws, y.length ≤ 300) ∧ (joinT ws).length ≤ 2000 := fun ws hws => by
  have a := cmds_wt xs
  have b := wt_mem hws
  have j := join_len5 ws
  rw [str_len]
  refine ⟨⟨by omega, fun y hy => ?_⟩, by omega⟩
  have d := each_le ws y hy
  omega
theorem cmds_len {xs : List Int} (hx : xs.length ≤ 16) : (cmdsT xs).length ≤ 17 := by
  have a := (crun_sizes xs).1
  unfold cmdsT
  rw [List.length_append, List.length_singleton]
  omega
theorem due_all {xs : List Int} (gp : Str) (hx : xs.length ≤ 16) : ∀ ws ∈ dueT gp xs, ws.length ≤ 500 ∧ (joinT ws).length ≤ 2000 := fun ws hws => by
  obtain ⟨r, e⟩ := due_pre gp xs
  obtain ⟨a, b⟩ := cmd_all hx ws (by rw [e]; exact List.mem_append_left _ hws)
  exact ⟨a.1, b⟩
theorem due_len {xs : List Int} (gp : Str) (hx : xs.length ≤ 16) : (dueT gp xs).length ≤ 17 := by
  obtain ⟨r, e⟩ := due_pre gp xs
  have := cmds_len hx
  rw [e, List.length_append] at this
  omega
theorem told_len {xs : List Int} {gp : Str} (hx : xs.length ≤ 16) (h : GapOk xs gp) : (Txt.join gp ((cmdsT xs).map joinT)).length ≤ 2000 := by
  have a := cmds_wt xs
  have b := text_len gp (gap_len h) (cmdsT xs)
  rw [str_len, show Txt.join gp ((cmdsT xs).map joinT) = Str.join gp ((cmdsT xs).map joinT) from StrLaws.glued_eq_join _ _]
  omega
theorem told_sum {xs : List Int} (hx : xs.length ≤ 16) : (((cmdsT xs).map joinT).map (·.length)).sum + ((cmdsT xs).map joinT).length ≤ 1048576 := by
  have a := cmds_len hx
  have b := sum_le (fun y : Str => y.length) 2000 ((cmdsT xs).map joinT) fun y hy => by
    obtain ⟨ws, hws, rfl⟩ := List.mem_map.mp hy
    exact (cmd_all hx ws hws).2
  rw [List.length_map] at b ⊢
  omega
theorem words_all {xs : List Int} (ap : Nat) (hx : xs.length ≤ 16) : (wordsT ap xs).length ≤ 500 ∧ (∀ y ∈ wordsT ap xs, y.length ≤ 300) ∧ (joinT (wordsT ap xs)).length ≤ 2000 := by
  have a := words_wt ap xs
  have j := join_len5 (wordsT ap xs)
  rw [str_len]
  refine ⟨by omega, fun y hy => ?_, by omega⟩
  have := each_le _ y hy
  omega
theorem hrun_res : ∀ (n : Nat) (l : List Nat), l.length = n → (hrun l).res.length ≤ l.length
  | 0, l, e => by rw [List.length_eq_zero_iff.mp e]; exact Nat.le_refl _
  | n + 1, l, e => by
    obtain ⟨l', c, rfl⟩ : ∃ l' c, l = l' ++ [c] := ⟨l.dropLast, l.getLast (by intro z; rw [z] at e; cases e), (List.dropLast_concat_getLast _).symm⟩
    have a := hrun_res n l' (by simpa using e)
    rw [hrun_snoc, List.length_append, List.length_singleton]
    have := hstep_res (hrun l') c
    omega
theorem strip_short (x : Str) : (Txt.strip x).length ≤ x.length := by
  rw [str_len, str_len, strip_list]
  unfold trim
  have a : ∀ (p : Nat → Bool) (l : List Nat), (l.dropWhile p).length ≤ l.length := fun p l => (List.dropWhile_suffix p).length_le
  have b := a sp (x.cps.toList.dropWhile sp).reverse
  have c := a sp x.cps.toList
  rw [List.length_reverse] at b ⊢
  omega
theorem parse_items (x : Str) : (parseT x).length ≤ x.length + 1 ∧ ∀ y ∈ parseT x, y.length ≤ x.length := by
  have h := hrun_res _ x.cps.toList rfl
  obtain ⟨k1, k2⟩ := hrun_items x.cps.toList
  have e := str_len x
  unfold parseT
  rw [List.length_map]
  dsimp only
  refine ⟨?_, fun y hy => ?_⟩
  · split
    · omega
    · rw [List.length_append, List.length_singleton]; omega
  · obtain ⟨z, hz, rfl⟩ := List.mem_map.mp hy
    have s := strip_short z
    have q : z.length ≤ x.cps.toList.length := by
      split at hz
      · exact k2 z hz
      · rcases List.mem_append.mp hz with hz | hz
        · exact k2 z hz
        · rw [List.mem_singleton.mp hz]; exact k1
    omega
section
variable {w : World} {A : Around} {E : Value → Shared → Prop} {s : Shared} {h₀ : Heap} {L : Addr} {m : Str → Option Value} {news : List (Addr × Obj)}
theorem gap_tail {Q : Value → Shared → Prop} {value slice : Expr} {xs : List Int} {S : Int} {D : Addr} {nn : Nat} {t0 t1 u : Tok} (N : News h₀ L s.heap news)
    (hm : (D, listOf [Value.str (Str.ofString ",") t0, .str (Str.ofString ", ") t1].toArray nn) ∈ news) (hS : S = xs.sum) (hq : ∀ gp t, GapOk xs gp → Q (.str gp t) s)
    (hs : ∀ i, subscripted slice false (.ref D) (.int i u) = operate [.ref D, .int i u] (getItem (.ref D) (.int i u))) (hg : ∀ r, letTemporaryGo value (.ref D) r = pure ()) :
    wpAny (model prg w) A (subscriptTail value slice (.ref D) (.int (S.fmod 2) u)) Q E s := by
  have e : S.fmod 2 = 0 ∨ S.fmod 2 = 1 := by
    rw [Int.fmod_eq_emod_of_nonneg _ (by decide)]; omega
  rcases e with e | e
  · rw [e]
    exact kim_list N hm rfl rfl (by decide) (by decide) rfl (hq _ _ ⟨Str.ofString "", by decide, .inl rfl, fun z => absurd z (by decide)⟩) (hs _) hg
  · have hx : xs ≠ [] := by
      rintro rfl
      rw [hS] at e
      exact absurd e (by decide)
    rw [e]
    exact kim_list N hm rfl rfl (by decide) (by decide) rfl (hq _ _ ⟨Str.ofString " ", by decide, .inr rfl, fun _ => hx⟩) (hs _) hg
/-- `if commands[-1] == [] and gap == ',': due.pop()` -/
def CutP (h₀ : Heap) (L D : Addr) (rest olds : List (Addr × Obj)) (gp : Str) (xs : List Int) (m : Str → Option Value) (s : Shared) (f : Flow) (s' : Shared) : Prop :=
  f = .next ∧ ∃ refs c h tk, s' = { s with heap := h, toks := tk } ∧ Fr h₀ L h m ∧ News h₀ L h ((D, listOf (List.toArray refs) c) :: rest) ∧ RefsAre olds refs (dueT gp xs)
theorem cutP_at {S : Stmt} {env : Env} {Q : Flow → Shared → Prop} {D : Addr} {rest olds : List (Addr × Obj)} {gp : Str} {xs : List Int} {rs : List Value} {c : Nat} (_F : Fr h₀ L s.heap m) (_N : News h₀ L s.heap ((D, listOf rs.toArray c) :: rest)) (_R : RefsAre olds rs (cmdsT xs)) (_G : GapOk xs gp)
    (h1 : wpAny (model prg w) A (exec S env) (CutP h₀ L D rest olds gp xs m s) E s)
    (h2 : ∀ refs c h tk, Fr h₀ L h m → News h₀ L h ((D, listOf (List.toArray refs) c) :: rest) → RefsAre olds refs (dueT gp xs) → Q .next { s with heap := h, toks := tk }) :
    wpAny (model prg w) A (exec S env) Q E s := by
  refine wpAny_mono h1 (fun f s' h => ?_) fun _ _ z => z
  obtain ⟨rfl, refs, c, h', tk', rfl, F', N', R'⟩ := h
  exact h2 refs c h' tk' F' N' R'
theorem cutP_keep {D : Addr} {rest olds : List (Addr × Obj)} {gp : Str} {xs : List Int} {rs : List Value} {c : Nat} {h' : Heap} {tk : Nat} (F : Fr h₀ L h' m) (N : News h₀ L h' news) (hs : ∀ p ∈ (D, listOf rs.toArray c) :: rest, p ∈ news) (R : RefsAre olds rs (cmdsT xs)) (hn : ¬ (gp = Str.ofString "," ∧ closeC (crun xs) = [])) :
    CutP h₀ L D rest olds gp xs m s .next { s with heap := h', toks := tk } :=
  ⟨rfl, rs, c, h', tk, rfl, F, sub_app N hs, by unfold dueT; rw [if_neg hn]; exact R⟩
theorem cutP_pop {D : Addr} {rest olds : List (Addr × Obj)} {gp : Str} {xs : List Int} {rs : List Value} {c : Nat} {h' : Heap} {tk : Nat} (F : Fr h₀ L h' m) (N : News h₀ L h' news) (hs : ∀ p ∈ (D, listOf rs.toArray c) :: rest, p ∈ news) (R : RefsAre olds rs (crun xs).old) (h1 : gp = Str.ofString ",") (h2 : closeC (crun xs) = []) :
    CutP h₀ L D rest olds gp xs m s .next { s with heap := h', toks := tk } :=
  ⟨rfl, rs, c, h', tk, rfl, F, sub_app N hs, by unfold dueT; rw [if_pos ⟨h1, h2⟩]; exact R⟩
theorem kl_lastL : ∀ (rs : List Value) (v : Value), kl_last (rs ++ [v]) = some (rs, v)
  | [], v => rfl
  | x :: r, v => by
    show (match kl_last (r ++ [v]) with | some (p, y) => some (x :: p, y) | none => some ([], x)) = _
    rw [kl_lastL r v]
theorem pop_P {D : Addr} {rs : List Value} {v : Value} {c : Nat} {news' : List (Addr × Obj)} {Q : Value → Shared → Prop} (F : Fr h₀ L s.heap m) (N : News h₀ L s.heap news) (U : Upd D (listOf (rs ++ [v]).toArray c) (listOf rs.toArray (c + 1)) news news') (hl : rs.length ≤ 16)
    (h : ∀ h', Fr h₀ L h' m → News h₀ L h' news' → Q v { s with heap := h' }) : wpAny (model prg w) A (call (.builtin "list.pop") [.ref D]) Q E s :=
  kl_pop F N (by rw [List.toList_toArray]; exact kl_lastL rs v) U (by rw [List.toList_toArray, List.length_append, List.length_singleton]; exact Nat.le_trans (Nat.succ_le_succ hl) (by decide)) h
theorem eq_gap {Q : Value → Shared → Prop} {gp : Str} {t u : Tok} (h1 : gp = Str.ofString "," → Q (.bool true) s) (h2 : gp ≠ Str.ofString "," → Q (.bool false) s) : wpAny (model prg w) A (compareOp .Eq (.str gp t) (.str (Str.ofString ",") u)) Q E s := by
  refine eq_str ?_
  cases e : gp == Str.ofString ","
  · exact h2 (by simpa using e)
  · exact h1 (eq_of_beq e)
theorem slice_strs {Q : Value → Shared → Prop} {value slice : Expr} {l : Addr} {vs : List Value} {ss : List Str} {n k : Nat} {kk : Int} {u : Tok} (F : Fr h₀ L s.heap m) (N : News h₀ L s.heap news) (hm : (l, listOf vs.toArray n) ∈ news) (hS : StrsAre vs ss) (hl : ss.length ≤ 500) (hk : kk = (k : Int))
    (h : ∀ D ws h', Fr h₀ L h' m → News h₀ L h' ((D, listOf (List.toArray ws) 0) :: news) → (∀ p ∈ news, @LT.lt Nat _ p.1 D) → StrsAre ws (ss.take k) → Q (.ref D) { s with heap := h' })
    (hs : subscripted slice false (.ref l) (.ref s.heap.objs.size) = operate [.ref s.heap.objs.size, .ref l] (getItem (.ref l) (.ref s.heap.objs.size))) (ht : ∀ r, letTemporaryGo value (.ref l) r = pure ()) :
    wpAny (model prg w) A (subscriptTail value slice (.ref l) (.ref s.heap.objs.size)) Q E { s with heap := s.heap.push { cls := .type "slice", data := .fields #[.none, .int kk u, .none] } } := by
  subst hk
  have hn := StrsAre.length hS
  have e : sliceBounds none (some (k : Int)) none vs.toArray.size = (((0 : Nat) : Int), ((min k vs.toArray.size : Nat) : Int), 1) := by
    have h0 : ¬ ((k : Int) < 0) := by omega
    simp only [sliceBounds, Option.getD_none, show (1 : Int) > 0 by decide, if_true, if_neg h0]
    congr 1
    congr 1
    omega
  refine kmk_slice F N (N.isList hm) .none (.int _ _) (fun D h' F' N' l1 => h D (vs.take k) h' F' ?_ l1 ?_) hs ht (by rw [List.size_toArray, hn]; exact Nat.le_trans hl (by decide))
  · rw [kmk_pick_nat _ e, List.size_toArray] at N'
    have q : (List.take (min k vs.length - 0) (List.drop 0 vs.toArray.toList)) = vs.take k := by
      rw [List.drop_zero, Nat.sub_zero, List.toList_toArray, kmk_take_min]
    rw [q] at N'
    exact N'
  · exact StrsAre.take' hS k
end
end Mine

end
section
open PySem PySem.W PySem.Calls PyProof.Rows PyProof.Rows.LCg
set_option Elab.async false
set_option maxRecDepth 100000
set_option linter.unusedVariables false
set_option maxHeartbeats 1000000
namespace Mine
section
variable {w : World} {A : Around} {E : Value → Shared → Prop} {s : Shared} {h₀ : Heap} {L : Addr} {m : Str → Option Value} {news : List (Addr × Obj)} {env : Env}
theorem paired_strs {f : Str → Str} : ∀ {us : List Value} {ss : List Str} {ys : List Value}, StrsAre us ss → Paired (fun v y => ∃ z t u, v = Value.str z t ∧ y = Value.str (f z) u) us ys → StrsAre ys (ss.map f)
  | _, _, _, .nil, .nil => .nil
  | _, _, _, .cons z t hS, .cons h p => by
    obtain ⟨z', t', u', e1, rfl⟩ := h
    cases e1
    exact .cons _ _ (paired_strs hS p)
/-- a comprehension over texts; the tokens of an item's turn are not below those of the start -/
theorem comp_repl {elt iter : Expr} {x : Str} {px pos : Pos} {scope : Scope} {Q : Value → Shared → Prop} {r : Addr} {us : List Value} {k : Nat} {ss : List Str} (f : Str → Str)
    (F : Fr h₀ L s.heap m) (N : News h₀ L s.heap news) (hm : (r, listOf us.toArray k) ∈ news) (hS : StrsAre us ss) (hsz : ss.length ≤ 100000) (hh : A.handled = none)
    (hclos : closureFor scope env = pure []) (hcell : ∀ y ∈ scope.names, y.2 ≠ .cell) (hkind : scope.kind = .function)
    (hnames : ∀ y ∈ scope.names, y.2 = .local → scope.names.lookup y.1 = some .local) (hx : scope.names.lookup x = some .local)
    (hi : ∀ Q' : Value → Shared → Prop, Q' (.ref r) s → wpAny (model prg w) A (eval iter env) Q' E s)
    (hs : ∀ x, foldedSetIterable iter env x = pure x) (htk : 1 ≤ s.toks)
    (el : ∀ y ∈ ss, ∀ t C m₂ (s' : Shared) (Q' : Value → Shared → Prop) (E' : Value → Shared → Prop), s'.heap.Ns C m₂ → m₂ x = some (.str y t) → 1 ≤ s'.toks → (∀ t' k', Q' (.str (f y) t') { s' with toks := k' }) → wpAny (model prg w) A (eval elt (compEnvC scope [] C env)) Q' E' s')
    (h : ∀ D h' tk vs, StrsAre vs (ss.map f) → Fr h₀ L h' m → News h₀ L h' news → h'.IsList D vs.toArray → Q (.ref D) { s with heap := h', toks := tk }) :
    wpAny (model prg w) A (eval (.ListComp elt [⟨.Name x px, iter, [], 0⟩] scope pos) env) Q E s := by
  have hlen := StrsAre.length hS
  have hl : s.heap.IsList r us.toArray := N.isList hm
  have hlt : r < s.heap.objs.size := by obtain ⟨_, e, _⟩ := hl; exact Heap.lt_size e
  refine wpAny_ListComp_free (fun _ => true) (fun v y => ∃ z t u, v = Value.str z t ∧ y = Value.str (f z) u) hclos hcell hkind hnames hx (hi _ (wpAny_pyIter_list hl ?_)) hs
  have up : ∀ b o, s.heap.get? b = some o → (s.heap.push { cls := .type "list_iterator", data := .fields #[.ref r, .int 0 0] }).get? b = some o := fun b o e => Heap.get?_push_of_some _ e
  refine ⟨_, _, _, us.toArray.size, _, _, rfl, Walks.list hh s.heap.objs.size r (Nat.ne_of_lt hlt) us.toArray, ?_, ⟨⟨_, Heap.get?_push_size _ rfl, rfl, rfl⟩, hl.push _⟩, ?_, ⟨?_, ?_⟩, ?_⟩
  · rw [List.size_toArray, hlen]; exact Nat.le_trans hsz (by decide)
  · intro b hb
    show b < (s.heap.push _).objs.size
    rw [Heap.size_push]
    rcases List.mem_cons.mp hb with rfl | hb
    · exact Nat.lt_succ_self _
    · rw [List.mem_singleton.mp hb]; exact Nat.lt_succ_of_lt hlt
  · intro C i v s₃ m₃ E' hC hP hn hm hk ht
    exact wpAny_tests_nil ⟨rfl, s₃.heap, s₃.toks, rfl, fun _ _ e => e⟩
  · intro C i v s₃ m₃ E' hC hP _ hn hm hk ht
    obtain ⟨y, t, rfl, hyi⟩ := StrsAre.item hS i v (by simpa using hP)
    exact el y (List.mem_of_getElem? hyi) t C m₃ s₃ _ _ hn hm (Nat.le_trans htk ht) fun t' k' => ⟨⟨y, t, t', rfl, rfl⟩, s₃.heap, k', rfl, fun _ _ e => e⟩
  · intro D h' tk ys vs hD hlD hpl hln hP hF hk
    have ev : vs = us := by
      apply List.ext_getElem?
      intro j
      by_cases hj : j < vs.length
      · have := hP j vs[j] (by simp [hj])
        rw [List.getElem?_eq_getElem hj]
        simpa using this.symm
      · have hj' : ¬ j < us.length := by rw [hln] at hj; simpa using hj
        rw [List.getElem?_eq_none (Nat.le_of_not_lt hj), List.getElem?_eq_none (Nat.le_of_not_lt hj')]
    subst ev
    have hF' : Paired (fun v y => ∃ z t u, v = Value.str z t ∧ y = Value.str (f z) u) vs ys.toList := by
      rw [show vs.filter (fun _ => true) = vs from List.filter_eq_self.mpr fun _ _ => rfl] at hF
      exact hF
    have keep : ∀ b o, s.heap.get? b = some o → h'.get? b = some o := fun b o e => hk b o (fun z => by
      rw [List.mem_singleton] at z
      rw [z] at e
      exact absurd (Heap.lt_size e) (Nat.lt_irrefl _)) (up b o e)
    exact h D h' tk ys.toList (paired_strs hS hF') (F.keeps keep) (N.grown keep) (by rw [Array.toArray_toList]; exact hlD)
theorem repl_call {Q : Value → Shared → Prop} {y a z : Str} {t u v : Tok} (hu : u ≠ 0) (hv : v ≠ 0) (huv : u ≠ v) (haz : (a == z) = false) (hy : y.length ≤ 1048576) (hz : z.length ≤ 14) (h : ∀ t' k', Q (.str (Txt.replace y a z) t') { s with toks := k' }) :
    wpAny (model prg w) A (call (.builtin "str.replace") [.str y t, .str a u, .str z v]) Q E s := SC.replaceW hu hv huv haz hy hz h
theorem repl_el {x y a z : Str} {t : Tok} {C : Addr} {m₂ : Str → Option Value} {Q : Value → Shared → Prop} {scope : Scope} {p1 p2 p3 p4 p5 : Pos} {k1 k2 : Nat} (hn : s.heap.Ns C m₂) (hv : m₂ x = some (.str y t)) (hy : y.length ≤ 1048576) (haz : (a == z) = false) (hz : z.length ≤ 14) (htk : 1 ≤ s.toks)
    (hline : (p2.endLine == p3.line) = true) (hk : (compEnvC scope [] C env).scope.kind = .function) (hl : (compEnvC scope [] C env).kindOf x = some .local) (hd : (x == ("__debug__" : Str)) = false) (hb : attributeBase (.Name x p1) (Str.ofString "replace") (compEnvC scope [] C env) (eval (.Name x p1) (compEnvC scope [] C env)) = eval (.Name x p1) (compEnvC scope [] C env))
    (hst : starEach [Expr.Constant (.str a) k1 p4, .Constant (.str z) k2 p5] (compEnvC scope [] C env) = [(false, eval (.Constant (.str a) k1 p4) (compEnvC scope [] C env)), (false, eval (.Constant (.str z) k2 p5) (compEnvC scope [] C env))])
    (h : ∀ t' k', Q (.str (Txt.replace y a z) t') { s with toks := k' }) :
    wpAny (model prg w) A (eval (.Call (.Attribute (.Name x p1) (Str.ofString "replace") p2) [.Constant (.str a) k1 p4, .Constant (.str z) k2 p5] [] p3) (compEnvC scope [] C env)) Q E s := by
  refine Call_method2 hb hst hline (ldVarK hn hv ?_ hk hl hd)
  refine ⟨"str", "str.replace", PySem.F.plainAttrs_str, PySem.F.slot_str_replace, PySem.F.type_str_replace, typeIs_str _ _ _, (fun _ e => nomatch e), ?_⟩
  refine callWith_builtin rfl (evalArgs_plain (spliced_cons (wpAny_Constant_str (spliced_cons (wpAny_Constant_str (spliced_nil ?_))))))
  exact repl_call (Nat.ne_of_gt htk) (Nat.succ_ne_zero _) (Nat.ne_of_lt (Nat.lt_succ_self _)) haz hy hz h
/-- tokens are never zero -/
def TQ (s : Shared) (P : Prop) : Prop := 1 ≤ s.toks → P
theorem execs_tok {st : Stmt} {rest : List Stmt} {Q : Flow → Shared → Prop} (ht : 1 ≤ s.toks) (h : wpAny (model prg w) A (exec st env) (fun f s' => TQ s' (match f with | .next => wpAny (model prg w) A (execs rest env) Q E s' | f => Q f s')) E s) :
    wpAny (model prg w) A (execs (st :: rest) env) Q E s :=
  wpAny_execs_cons (wpAny_with_toks ht (wpAny_mono h (fun _ _ x => x) fun _ _ x _ => x))
theorem call_tok {f : Value} {args : List Value} {Q : Value → Shared → Prop} (ht : 1 ≤ s.toks) (h : wpAny (model prg w) A (call f args) (fun v s' => TQ s' (Q v s')) E s) : wpAny (model prg w) A (call f args) Q E s :=
  wpAny_with_toks ht (wpAny_mono h (fun _ _ x => x) fun _ _ x _ => x)
end
end Mine

end
section
open PySem PySem.W PySem.Calls PyProof.Rows PyProof.Rows.LCg
set_option Elab.async false
set_option maxRecDepth 100000
set_option linter.unusedVariables false
set_option maxHeartbeats 3000000
set_option compiler.extract_closed false
namespace Mine
theorem fillK_Lg : (PySem.Challenge.rw_mq0407_01 = PySem.Challenge.rw_mq0407_01) ∧ KK = KK := by
  k_fill
  exact ⟨rfl, rfl⟩
section
variable {w : World} {tp : Program} {loose : List Str} {mean : ExcName → Option Value} {mg mb : Str → Option Value} {base g : Heap} {outer : List Env} {s : Shared} {dp un : Nat} {gd : Option (List Code)} {R : Result → Shared → Prop} {A : Around} {E : Value → Shared → Prop}
theorem acute_is : Str.ofString "´" = ⟨#[180]⟩ := by decide +kernel
theorem due_fit {olds : List (Addr × Obj)} {refs : List Value} {gp : Str} {xs : List Int} (hR : RefsAre olds refs (dueT gp (xs.take 16))) : ((refs.toArray.size : Nat) : Int) ≤ 16384 := by
  have := due_len gp (xs := xs.take 16) (List.length_take_le 16 xs)
  rw [List.size_toArray, hR.length]; omega
theorem isList_in {L : Addr} {h : Heap} {news : List (Addr × Obj)} {D : Addr} {its : Array Value} {n : Nat} (N : News g L h news) (hp : (D, listOf its n) ∈ news) : h.IsList D its := N.isList hp
theorem News.got {L : Addr} {h : Heap} {news : List (Addr × Obj)} (N : News g L h news) {p : Addr × Obj} (hp : p ∈ news) : h.get? p.1 = some p.2 := (N p hp).1
theorem nil_of {bs : List Value} {c : List Str} (h : StrsAre bs c) (e : bs = []) : c = [] := by
  subst e; cases h; rfl
theorem keep1 {gp : Str} {P : Prop} (h : gp ≠ Str.ofString ",") : ¬ (gp = Str.ofString "," ∧ P) := fun z => h z.1
theorem keep2 {bs : List Value} {c : List Str} {P : Prop} (h : StrsAre bs c) (e : bs ≠ []) : ¬ (P ∧ c = []) := fun z => e (by
  have := z.2
  subst this
  cases h
  rfl)
/-- `[split(line) for line in told]` -/
theorem splits_L {A₀ : Around} {name : Str} {sc cs : Scope} {f L C : Addr} {cd : Value} {m : Str → Option Value} {Q : Value → Shared → Prop} {vs : List Value} {n : Nat} {T₀ : List (List Str)} {news : List (Addr × Obj)} {x : Str} {p1 p2 p3 px p5 pos : Pos}
    (hA : A = AA dp un gd [envOf name sc L f cd]) (B : Below A₀ base [] g) (F : Fr g L s.heap m) (X : (KK w.params).In g) (N : News g L s.heap news) (T : Top tp loose mean mg mb g) (hC : (C, listOf vs.toArray n) ∈ news)
    (hS : StrsAre vs (T₀.map joinT)) (hb : AllBare s.gens) (hw : ∀ ws ∈ T₀, ws.length ≤ 500 ∧ (joinT ws).length ≤ 2000) (hl : T₀.length ≤ 500) (hd : dp + 60 < recursionLimit) (hu : un + 600 < cLine)
    (hk : sc.kind = .function) (hm : m x = some (.ref C)) (hc : (envOf name sc L f cd).kindOf x = some .local) (hx : (x == ("__debug__" : Str)) = false)
    (hclos : closureFor cs (envOf name sc L f cd) = pure []) (hcell : ∀ y ∈ cs.names, y.2 ≠ .cell) (hkind : cs.kind = .function) (hnames : ∀ y ∈ cs.names, y.2 = .local → cs.names.lookup y.1 = some .local) (hxl : cs.names.lookup (Str.ofString "line") = some .local)
    (hs : ∀ z, foldedSetIterable (.Name x p5) (envOf name sc L f cd) z = pure z)
    (hl1 : ∀ C, (compEnvC cs [] C (envOf name sc L f cd)).kindOf (Str.ofString "line") = some .local) (hl2 : ∀ C, (compEnvC cs [] C (envOf name sc L f cd)).kindOf (Str.ofString "split") = some .globalImplicit) (hk2 : ∀ C, (compEnvC cs [] C (envOf name sc L f cd)).scope.kind = .function)
    (hbk : ∀ C, backTo p3 (starEach [.Name (Str.ofString "line") p2] (compEnvC cs [] C (envOf name sc L f cd))) = [(false, eval (.Name (Str.ofString "line") p2) (compEnvC cs [] C (envOf name sc L f cd)))])
    (h : ∀ D refs made (s' : Shared), RefsAre made refs T₀ → Fr g L s'.heap m → News g L s'.heap made → News g L s'.heap ((D, lst refs) :: news) → AllBare s'.gens → s'.os = s.os → Q (.ref D) s') :
    wpAny (model prg w) A (eval (.ListComp (.Call (.Name (Str.ofString "split") p1) [.Name (Str.ofString "line") p2] [] p3) [⟨.Name (Str.ofString "line") px, .Name x p5, [], 0⟩] cs pos) (envOf name sc L f cd)) Q E s :=
  splits_K hA B F X N T hC hS hb hw hl hd hu hk hm hc hx hclos hcell hkind hnames hxl hs hl1 hl2 hk2 hbk fun D refs made s' a b c d e => h D refs made s' a b (sub_app c fun p hp => .tail _ (List.mem_append_left _ hp)) (sub_app c fun p hp => by
    rcases List.mem_cons.mp hp with rfl | hp
    · exact .head _
    · exact .tail _ (List.mem_append_right _ hp)) d e
theorem item_small {ap : Nat} {xs : List Int} : ∀ y ∈ parseT (joinT (wordsT ap (xs.take 16))), y.length ≤ 1048576 := fun y hy => by
  have a := (parse_items (joinT (wordsT ap (xs.take 16)))).2 y hy
  have b := (words_all ap (xs := xs.take 16) (List.length_take_le 16 xs)).2.2
  omega
theorem items_few {ap : Nat} {xs : List Int} : (parseT (joinT (wordsT ap (xs.take 16)))).length ≤ 100000 := by
  have a := (parse_items (joinT (wordsT ap (xs.take 16)))).1
  have b := (words_all ap (xs := xs.take 16) (List.length_take_le 16 xs)).2.2
  omega
theorem repl_ne : ((Str.ofString "´") == (Str.ofString "'\"'\"'")) = false := by decide +kernel
theorem repl_few : (Str.ofString "'\"'\"'").length ≤ 14 := by decide +kernel
theorem law_w {xs : List Int} {us : List Value} (h : StrsAre us ((parseT (joinT (wordsT 180 xs))).map fun y => Txt.replace y (Str.ofString "´") (Str.ofString "'\"'\"'"))) : StrsAre us (parseT (joinT (wordsT 39 xs))) := by
  rw [law_words, ← acute_is]; exact h
local macro_rules | `(tactic| k_room) => `(tactic| ((try simp only [depth_under_make, depth_under_kw, depth_in1, depth_deeper, depth_caller]); (try dsimp only [Around.deeper, Around.under, Around.in1]); first | exact room0 (by assumption) | exact room1 (by assumption) rfl | exact room2 (by assumption) rfl | omega))
local macro_rules | `(tactic| walk_at "exec If") => `(tactic| refine wpAny_If ?_)
local macro_rules | `(tactic| walk_at "execs cons") => `(tactic| ((with_reducible refine' execs_tok ?t ?_); (case t => first | assumption | exact Nat.le_trans (by assumption) (Nat.le_add_right _ _) | (dsimp only; omega)); try dsimp only))
local macro_rules | `(tactic| walk_at "TQ") => `(tactic| (unfold TQ; intro hT9; (try dsimp only at hT9); (try dsimp only)))
theorem tk_cmds {Q : Value → Shared → Prop} {args : List Value} (ht : 1 ≤ s.toks) (h : wpAny (model prg w) A (call (.ref 764) args) (fun v s' => TQ s' (Q v s')) E s) : wpAny (model prg w) A (call (.ref 764) args) Q E s := call_tok ht h
/-- the join of words, within the law -/
theorem join_K3 {A₀ : Around} {env : Env} {L : Addr} {m : Str → Option Value} {news : List (Addr × Obj)} (keep : List (Addr × Obj)) {Q : Value → Shared → Prop} {r : Addr} {us : List Value} {k : Nat} {xs : List Int} {ap : Nat} {ps : Array Value}
    (hA : A = AA dp un gd (env :: outer)) (hf : env.frame = some L) (hke : env.scope.kind = .function) (B : Below A₀ base outer g) (F : Fr g L s.heap m) (X : (KK w.params).In g) (N : News g L s.heap ((r, listOf us.toArray k) :: news)) (T : Top tp loose mean mg mb g)
    (hj : (746, JT ps) ∈ news) (hr : @Ne Nat r 746) (hk : ∀ p ∈ keep, p ∈ news ∧ @Ne Nat p.1 746) (htr : TriplesOk ps.toList) (hS : StrsAre us (wordsT ap (xs.take 16))) (hb : AllBare s.gens)
    (hd : dp + 6 < recursionLimit) (hu : un + 60 < cLine) (ht : 1 ≤ s.toks)
    (h : ∀ t' ps' (s' : Shared), Fr g L s'.heap m → News g L s'.heap ((746, JT ps') :: keep) → TriplesOk ps'.toList → AllBare s'.gens → s'.os = s.os → 1 ≤ s'.toks → Q (.str (joinT (wordsT ap (xs.take 16))) t') s') :
    wpAny (model prg w) A (call (.ref 751) [.ref r]) Q E s := by
  obtain ⟨w1, w2, w3⟩ := words_all ap (xs := xs.take 16) (List.length_take_le 16 xs)
  refine call_tok ht (join_K2 (k := k) (rest := (r, listOf us.toArray k) :: keep) hA hf hke B F X N T (.tail _ hj) ?_ (.head _) htr hS w1 w2 hb hd hu fun t' more s' F' N' a b c ht' => h t' _ s' F' (sub_app N' ?_) a b c ht')
  · intro p hp
    rcases List.mem_cons.mp hp with rfl | hp
    · exact ⟨.head _, hr⟩
    · exact ⟨.tail _ (hk p hp).1, (hk p hp).2⟩
  · intro p hp
    rcases List.mem_cons.mp hp with rfl | hp
    · exact .head _
    · exact .tail _ (.tail _ hp)
theorem join_K4 {A₀ : Around} {env : Env} {L : Addr} {m : Str → Option Value} {news : List (Addr × Obj)} {D : Addr} {vs : List Value} {Q : Value → Shared → Prop} {r : Addr} {us : List Value} {k : Nat} {xs : List Int} {ap : Nat} {ps : Array Value}
    (hA : A = AA dp un gd (env :: outer)) (hf : env.frame = some L) (hke : env.scope.kind = .function) (B : Below A₀ base outer g) (F : Fr g L s.heap m) (X : (KK w.params).In g) (N : News g L s.heap ((r, listOf us.toArray k) :: news)) (T : Top tp loose mean mg mb g)
    (hj : (746, JT ps) ∈ news) (hr : @Ne Nat r 746) (hk : (D, lst vs) ∈ news) (hD : @Ne Nat D 746) (htr : TriplesOk ps.toList) (hS : StrsAre us (wordsT ap (xs.take 16))) (hb : AllBare s.gens)
    (hd : dp + 6 < recursionLimit) (hu : un + 60 < cLine) (ht : 1 ≤ s.toks)
    (h : ∀ t' ps' (s' : Shared), Fr g L s'.heap m → News g L s'.heap ((746, JT ps') :: [(D, lst vs)]) → TriplesOk ps'.toList → AllBare s'.gens → s'.os = s.os → 1 ≤ s'.toks → Q (.str (joinT (wordsT ap (xs.take 16))) t') s') :
    wpAny (model prg w) A (call (.ref 751) [.ref r]) Q E s :=
  join_K3 [(D, lst vs)] hA hf hke B F X N T hj hr (fun p hp => by rw [List.mem_singleton.mp hp]; exact ⟨hk, hD⟩) htr hS hb hd hu ht h
theorem wrds_K3 {A₀ : Around} {env : Env} {L : Addr} {m : Str → Option Value} {news : List (Addr × Obj)} {Q : Value → Shared → Prop} {a : Addr} {us : List Value} {n : Nat} {xs : List Int} {y : Str} {t : Tok}
    (hA : A = AA dp un gd (env :: outer)) (hf : env.frame = some L) (hke : env.scope.kind = .function) (B : Below A₀ base outer g) (F : Fr g L s.heap m) (X : (KK w.params).In g) (N : News g L s.heap news) (T : Top tp loose mean mg mb g)
    (hr : g.get? a = some (listOf us.toArray n)) (hI : IntsAre us xs) (hlen : xs.length ≤ 63) (hd : dp + 10 < recursionLimit) (hu : un + 100 < cLine) (ht : 1 ≤ s.toks) (ap : Nat) (hy : y = ⟨#[ap]⟩)
    (h : ∀ D vs k h' tk', StrsAre vs (wordsT ap (xs.take 16)) → (∀ q ∈ news, @Ne Nat D q.1) → 1 ≤ tk' → Fr g L h' m → News g L h' ((D, listOf vs.toArray k) :: news) → Q (.ref D) { s with heap := h', toks := tk' }) :
    wpAny (model prg w) A (call (.ref 778) [.ref a, .str y t]) Q E s := by
  subst hy
  exact call_tok ht (wrds_K hA hf hke B F X N T hr hI hlen hd hu fun D vs k h' tk' a b c d ht' => h D vs k h' tk' a b ht' c d)
theorem parse_K3 {A₀ : Around} {env : Env} {L : Addr} {m : Str → Option Value} {news : List (Addr × Obj)} {Q : Value → Shared → Prop} {x : Str} {t : Tok} {r : List Str}
    (hA : A = AA dp un gd (env :: outer)) (hf : env.frame = some L) (hke : env.scope.kind = .function) (B : Below A₀ base outer g) (F : Fr g L s.heap m) (X : (KK w.params).In g) (N : News g L s.heap news) (T : Top tp loose mean mg mb g)
    (hx : x.length ≤ 2000) (hd : dp + 2 < recursionLimit) (hu : un + 20 < cLine) (ht : 1 ≤ s.toks) (he : parseT x = r)
    (h : ∀ D vs h' tk', StrsAre vs r → (∀ q ∈ news, @Ne Nat D q.1) → 1 ≤ tk' → Fr g L h' m → News g L h' ((D, lst vs) :: news) → Q (.ref D) { s with heap := h', toks := tk' }) :
    wpAny (model prg w) A (call (.ref 764) [.str x t]) Q E s := by
  subst he
  exact call_tok ht (parse_K hA hf hke B F X N T hx hd hu fun D vs h' tk' a b c d ht' => h D vs h' tk' a b ht' c d)
/-- the slice of the lines -/
theorem slice_due {L l : Addr} {m : Str → Option Value} {news olds : List (Addr × Obj)} {vs refs : List Value} {n : Nat} {gp : Str} {xs : List Int} {Q : Value → Shared → Prop} {value slice : Expr} {u : Tok} (F : Fr g L s.heap m) (N : News g L s.heap news) (hS : StrsAre vs ((cmdsT (xs.take 16)).map joinT)) (hR : RefsAre olds refs (dueT gp (xs.take 16))) (hm : (l, listOf vs.toArray n) ∈ news)
    (h : ∀ D ws h', Fr g L h' m → News g L h' ((D, listOf (List.toArray ws) 0) :: news) → StrsAre ws ((dueT gp (xs.take 16)).map joinT) → Q (.ref D) { s with heap := h' })
    (hs : subscripted slice false (.ref l) (.ref s.heap.objs.size) = operate [.ref s.heap.objs.size, .ref l] (getItem (.ref l) (.ref s.heap.objs.size))) (ht : ∀ r, letTemporaryGo value (.ref l) r = pure ()) :
    wpAny (model prg w) A (subscriptTail value slice (.ref l) (.ref s.heap.objs.size)) Q E { s with heap := s.heap.push { cls := .type "slice", data := .fields #[.none, .int ((refs.toArray.size : Nat) : Int) u, .none] } } := by
  refine slice_strs (k := refs.toArray.size) F N hm hS ?_ rfl (fun D ws h' F' N' _ hW => h D ws h' F' N' ?_) hs ht
  · have := cmds_len (xs := xs.take 16) (List.length_take_le 16 xs)
    rw [List.length_map]; omega
  · rw [List.size_toArray, hR.length, due_take] at hW
    exact hW
theorem lines_L {A₀ : Around} {name : Str} {sc cs : Scope} {f L C : Addr} {cd : Value} {m : Str → Option Value} {Q : Flow → Shared → Prop} {refs : List Value} {n : Nat} {T₀ : List (List Str)} {olds : List (Addr × Obj)} {ps : Array Value} {x y : Str} {p1 p2 p3 px py p5 spos pos : Pos}
    (hA : A = AA dp un gd (envOf name sc L f cd :: outer)) (B : Below A₀ base outer g) (F : Fr g L s.heap m) (X : (KK w.params).In g) (N : News g L s.heap ((746, JT ps) :: (C, listOf refs.toArray n) :: olds)) (T : Top tp loose mean mg mb g)
    (hR : RefsAre olds refs T₀) (hCj : @Ne Nat C 746) (hoj : ∀ p ∈ olds, @Ne Nat p.1 746) (htr : TriplesOk ps.toList) (hb : AllBare s.gens) (hw : ∀ ws ∈ T₀, ws.length ≤ 500 ∧ ∀ y ∈ ws, y.length ≤ 300) (hl : T₀.length ≤ 500) (hd : dp + 6 < recursionLimit) (hu : un + 60 < cLine)
    (hk : sc.kind = .function) (hm : m x = some (.ref C)) (hc : (envOf name sc L f cd).kindOf x = some .local) (hx : (x == ("__debug__" : Str)) = false)
    (hsw : swapsWith (.ListComp (.Call (.Name (Str.ofString "join_shlex") p1) [.Name (Str.ofString "command") p2] [] p3) [⟨.Name (Str.ofString "command") px, .Name x p5, [], 0⟩] cs pos) (some (.Name y py)) spos.line (envOf name sc L f cd) = pure true) (hy : (envOf name sc L f cd).kindOf y = some .local)
    (hclos : closureFor cs (envOf name sc L f cd) = pure []) (hcell : ∀ y ∈ cs.names, y.2 ≠ .cell) (hkind : cs.kind = .function) (hnames : ∀ y ∈ cs.names, y.2 = .local → cs.names.lookup y.1 = some .local) (hxl : cs.names.lookup (Str.ofString "command") = some .local)
    (hs : ∀ z, foldedSetIterable (.Name x p5) (envOf name sc L f cd) z = pure z)
    (hl1 : ∀ C, (compEnvC cs [] C (envOf name sc L f cd)).kindOf (Str.ofString "command") = some .local) (hl2 : ∀ C, (compEnvC cs [] C (envOf name sc L f cd)).kindOf (Str.ofString "join_shlex") = some .globalImplicit) (hk2 : ∀ C, (compEnvC cs [] C (envOf name sc L f cd)).scope.kind = .function)
    (hbk : ∀ C, backTo p3 (starEach [.Name (Str.ofString "command") p2] (compEnvC cs [] C (envOf name sc L f cd))) = [(false, eval (.Name (Str.ofString "command") p2) (compEnvC cs [] C (envOf name sc L f cd)))])
    (h : ∀ D vs ps' (s' : Shared), StrsAre vs (T₀.map joinT) → Fr g L s'.heap (fun z => if z = y then some (.ref D) else m z) → News g L s'.heap ((D, listOf vs.toArray vs.length) :: (746, JT ps') :: (C, listOf refs.toArray n) :: olds) → @Ne Nat D 746 → TriplesOk ps'.toList → AllBare s'.gens → s'.os = s.os → Q .next s') :
    wpAny (model prg w) A (exec (.Assign [.Name y py] (.ListComp (.Call (.Name (Str.ofString "join_shlex") p1) [.Name (Str.ofString "command") p2] [] p3) [⟨.Name (Str.ofString "command") px, .Name x p5, [], 0⟩] cs pos) spos) (envOf name sc L f cd)) Q E s := by
  refine lines_K hA B F X (n := n) (olds := olds) (ps := ps) (fun p hp => N p ?_) T hR hCj hoj htr hb hw hl hd hu hk hm hc hx hsw hy hclos hcell hkind hnames hxl hs hl1 hl2 hk2 hbk fun D vs ps' s' hS F' N' hD htr' hb' ho' => h D vs ps' s' hS F' (fun p hp => N' p ?_) (Ne.symm (hD (746, JT ps') (by simp))) htr' hb' ho'
  all_goals
    simp only [List.mem_cons, List.mem_append, List.not_mem_nil, or_false] at hp ⊢
  · rcases hp with rfl | hp | rfl <;> simp [*]
  · rcases hp with rfl | rfl | rfl | hp
    · exact .inl rfl
    · simp
    · simp
    · simp [hp]
theorem cmd_small {xs : List Int} : ∀ ws ∈ cmdsT (xs.take 16), ws.length ≤ 500 ∧ ∀ y ∈ ws, y.length ≤ 300 := fun ws hws => by
  have a := cmds_wt (xs.take 16)
  have b := wt_mem hws
  have c := List.length_take_le 16 xs
  refine ⟨by omega, fun y hy => ?_⟩
  have d := each_le ws y hy
  omega
theorem cmds_few {xs : List Int} : (cmdsT (xs.take 16)).length ≤ 500 := by
  have a := (crun_sizes (xs.take 16)).1
  have c := List.length_take_le 16 xs
  unfold cmdsT
  rw [List.length_append, List.length_singleton]
  omega
theorem join_tok {D : Addr} {items : Array Value} {x : Str} {t : Tok} {ys : List Str} {Q : Value → Shared → Prop} (hl : s.heap.IsList D items) (hi : StrsAre items.toList ys) (hsep : x.length ≤ 16) (hw : (ys.map (·.length)).sum + ys.length ≤ 1048576) (ht : 1 ≤ s.toks)
    (h : ∀ t' k, 1 ≤ k → Q (.str (Txt.join x ys) t') { s with toks := k }) : wpAny (model prg w) A (call (.builtin "str.join") [.str x t, .ref D]) Q E s :=
  call_tok ht (join_listW hl hi hsep hw fun t' k ht' => h t' k ht')
local macro_rules | `(tactic| walk_at "subscriptTail Name UnaryOp ref int") => `(tactic| (k_dflt (refine sub_last (by assumption) (by k_mem) ?_)))
local macro_rules | `(tactic| k_ownIn) => `(tactic| first | assumption | (refine List.Mem.tail _ ?_; k_ownIn))
local macro_rules | `(tactic| walk_at "compareOp Eq str str") => `(tactic| (refine eq_gap ?_ ?_ <;> intro hg8))
local macro_rules | `(tactic| walk_at "call ref") => `(tactic| refine stop_of ?_)
local macro_rules | `(tactic| walk_at "exec Assign cons ListComp") => `(tactic| refine stop_of ?_)
local macro_rules | `(tactic| walk_at "subscriptTail Name BinOp") => `(tactic| refine stop_of ?_)
local macro_rules | `(tactic| walk_at "call type:list") => `(tactic| refine stop_of ?_)
local macro_rules | `(tactic| walk_at "compareOp Eq ref ref") => `(tactic| refine stop_of ?_)
local macro_rules | `(tactic| walk_at "call builtin:list.pop") => `(tactic| refine stop_of ?_)
local macro_rules | `(tactic| walk_at "CutP") => `(tactic| refine stop_of ?_)
local macro_rules | `(tactic| walk_at "call builtin:str.join") => `(tactic| refine stop_of ?_)
local macro_rules | `(tactic| walk_at "call builtin:len") => `(tactic| refine stop_of ?_)
local macro_rules | `(tactic| walk_at "compareOp NotEq ref ref") => `(tactic| refine stop_of ?_)
local macro_rules | `(tactic| walk_at "eval ListComp") => `(tactic| refine stop_of ?_)
local macro_rules | `(tactic| walk_at "exec If") => `(tactic| ((with_reducible show wpAny _ _ (exec (Stmt.If (Expr.BoolOp BoolOp.And _ _) _ _ _) _) _ _ _); (fail_if_success (with_reducible show wpAny _ _ _ (CutP _ _ _ _ _ _ _ _ _) _ _)); refine stop_of ?_))
local macro_rules | `(tactic| walk_at "subscriptTail Name Slice ref ref") => `(tactic| ((with_reducible show wpAny _ _ (subscriptTail (Expr.Name (Str.ofString "lines") _) _ _ _) _ _ _); refine stop_of ?_))
local macro_rules | `(tactic| walk_at "subscriptTail List") => `(tactic| k_dflt (refine kba_turn (value' := PySem.Expr.Name (PySem.Str.ofString "_") ⟨0, 0, 0, 0⟩) (fun _ => rfl) ?_))
theorem law_c (r : Addr) (us : List Value) (n : Nat) (xs : List Int) (ps : Array Value) (hr : g.get? r = some (listOf us.toArray n)) (hI : IntsAre us xs) (hlen : xs.length ≤ 63) (htr : TriplesOk ps.toList) (hb : AllBare s.gens) (htk : 1 ≤ s.toks)
    (B : Below (AA dp un gd []) base [] g) (X : (KK w.params).In g) (T : Top tp loose mean mg mb g) (P : Pre g s.heap [(746, JT ps)]) (hd : dp + 70 < recursionLimit) (hu : un + 700 < cLine)
    (h : ∀ ps' (s' : Shared), Pre g s'.heap [(746, JT ps')] → AllBare s'.gens → s'.os = s.os → R (.ok (.ret (.bool true))) s') :
    codeAny (model prg w) (AA dp un gd []) (.call (.ref 783) ⟨[.ref r], []⟩) R s := by
  w_on
  k_dflt (refine' enter P X T ?k6 ?k7 ?k8 ?k9 ?kB ?_ ?c5 ?c2 ?c3 ?c4; (case k6 => k_is); (case k7 => k_is); (case k8 => first | exact room0 (by assumption) | omega); (case k9 => first | exact BindsTo.of_eq rfl | exact binds_K (Frag.In.keeps X (Pre.keep P)) rfl (by k_is) rfl rfl rfl); (case c5 => decide); (case kB => exact locs rfl); (case c2 => exact rfl); (case c3 => exact rfl); (case c4 => exact rfl))
  intro L' h₁ F N hlt
  (try dsimp only)
  (try k_fold)
  have hIs : g.IsList r us.toArray := ⟨_, hr, rfl, _, rfl⟩
  w_strict k_steps
  show wpAny _ _ _ _ _ _
  ((with_reducible show wpAny _ _ (call (Value.ref 771) _ _) _ _ _); k_dflt (refine' cmds_L (outer := _) ?z6A ?z6f ?z6ke ?z6B ?z6F ?z6X ?z6N ?z6T ?z6r ?z6I ?z6len ?z6d ?z6u ?_; (case z6A => exact rfl); (case z6f => exact rfl); (case z6ke => exact rfl); (case z6B => k_asm); (case z6F => k_asm); (case z6N => k_asm); (case z6X => k_asm); (case z6T => k_asm); (case z6r => assumption); (case z6I => assumption); (case z6len => assumption); (case z6d => k_room); (case z6u => k_room)); intro C9 rs9 b9 bs9 k9 olds9 n9 h9 tk9 hR9 hb9 hS9 hRs9 hl9 hC9 ho9 F9 N9)
  w_strict k_steps
  show wpAny _ _ _ _ _ _
  (k_dflt (refine' lines_L (outer := _) ?z7A ?z7B ?z7F ?z7X ?z7N ?z7T ?z7R ?z7a1 ?z7a2 ?z7tr ?z7b ?z7w ?z7l ?z7d ?z7u ?z7k ?z7m ?z7c ?z7x ?z7sw ?z7y ?z7cl ?z7ce ?z7kd ?z7nm ?z7xl ?z7s ?z7l1 ?z7l2 ?z7k2 ?z7bk ?_; (case z7A => exact rfl); (case z7B => k_asm); (case z7F => k_asm); (case z7N => k_asm); (case z7X => k_asm); (case z7T => k_asm); (case z7R => assumption); (case z7a1 => assumption); (case z7a2 => assumption); (case z7tr => assumption); (case z7b => assumption); (case z7w => exact cmd_small); (case z7l => exact cmds_few); (case z7d => k_room); (case z7u => k_room); (case z7k => exact rfl); (case z7m => exact rfl); (case z7c => exact rfl); (case z7x => decide); (case z7sw => exact rfl); (case z7y => exact rfl); (case z7cl => with_unfolding_all rfl); (case z7ce => decide); (case z7kd => exact rfl); (case z7nm => decide); (case z7xl => exact rfl); (case z7s => exact fun _ => rfl); (case z7l1 => exact fun _ => rfl); (case z7l2 => exact fun _ => rfl); (case z7k2 => exact fun _ => rfl); (case z7bk => exact fun _ => rfl)); intro D9 vs9 ps9 s9 hS9 F9 N9 hD9 htr9 hb9 ho9)
  w_strict k_steps
  show wpAny _ _ _ _ _ _
  ((with_reducible show wpAny _ _ (subscriptTail _ _ (Value.ref _) (Value.int _ _)) _ _ _); k_dflt (refine' gap_tail ?z8Ng ?z8mg ?z8Sg ?z8qg ?z8hsg ?z8hgg; (case z8Ng => assumption); (case z8mg => k_mem); (case z8Sg => exact rfl); (case z8hsg => (intro _; rfl)); (case z8hgg => (intro _; rfl))); intro gp8 t8 hG8)
  w_strict k_steps
  show wpAny _ _ _ _ _ _
  (k_dflt (refine' kup_listOf ?z9Fl ?z9Nl ?z9bl ?z9el ?_ ?z9zl; (case z9Fl => k_asm); (case z9Nl => k_asm); (case z9bl => k_mem); (case z9el => exact List.toList_toArray); (case z9zl => (rw [List.toList_toArray, List.length_append, List.length_singleton]; exact Nat.le_trans (Nat.succ_le_succ (by assumption)) (by decide)))); intro D8 c8 h8 F8 N8 l8; (have hne8 := fun q hq => Nat.ne_of_lt (l8 q hq)); clear l8)
  w_strict k_steps
  show wpAny _ _ _ _ _ _
  k_dflt (refine' cutP_at ?z10Fc ?z10Nc ?z10Rc ?z10Gc ?_ ?_; (case z10Fc => assumption); (case z10Nc => assumption); (case z10Rc => assumption); (case z10Gc => assumption))
  · skip
    w_strict k_steps
    show wpAny _ _ _ _ _ _
    (refine' eq_w ?z11Fe ?z11Ne ?z11h1e ?z11h2e ?z11hue ?_ ?_; (case z11Fe => assumption); (case z11Ne => assumption); (case z11h1e => exact .head _); (case z11h2e => k_ownIn); (case z11hue => k_room); (all_goals first | intro hx8 | skip))
    all_goals (w_strict k_steps)
    all_goals unfold Stop
    all_goals first
      | exact cutP_keep (by assumption) (by assumption) (fun p hp => List.mem_cons_of_mem _ hp) (by assumption) (by first | exact keep1 (by assumption) | exact keep2 (by assumption) (by assumption))
      | (show wpAny _ _ _ _ _ _;   (k_dflt (refine' pop_P ?z12Fq ?z12Nq ?z12Uq ?z12lq ?_; (case z12Fq => assumption); (case z12Nq => first | exact sub_app (by assumption) (fun p hp => List.mem_cons_of_mem _ hp) | assumption); (case z12Uq => exact .head (by assumption)); (case z12lq => assumption)); intro h8 F8 N8); w_strict k_steps; unfold Stop; exact cutP_pop (by assumption) (by assumption) (fun _ h => h) (by assumption) (by assumption) (nil_of (by assumption) (by assumption)))

  intro refs7 c7 h7 tk7 F7 N7 hR7
  w_strict k_steps
  show wpAny _ _ _ _ _ _
  (k_dflt (refine' join_tok ?z13la ?z13lb ?z13lc ?z13ld ?z13le ?_; (case z13le => first | assumption | (dsimp only; omega)); (case z13la => exact News.isList (by assumption) (by k_mem)); (case z13lb => (rw [List.toList_toArray]; assumption)); (case z13lc => exact gap_len' (by assumption)); (case z13ld => exact told_sum (List.length_take_le 16 _))); intro t3 tk3 hT3)
  w_strict k_steps
  show wpAny _ _ _ _ _ _
  ((with_reducible show wpAny _ _ (call (Value.ref 764) _ _) _ _ _); k_dflt (refine' parse_K3 (outer := _) ?z14Ap ?z14fp ?z14kep ?z14Bp ?z14Fp ?z14Xp ?z14Np ?z14Tp ?z14xp ?z14dp ?z14up ?z14tp ?z14ep ?_; (case z14Ap => exact rfl); (case z14fp => exact rfl); (case z14kep => exact rfl); (case z14Bp => k_asm); (case z14Fp => k_asm); (case z14Np => k_asm); (case z14Xp => k_asm); (case z14Tp => k_asm); (case z14dp => k_room); (case z14up => k_room); (case z14tp => first | assumption | (dsimp only; omega)); (case z14xp => first | with_reducible exact told_len (List.length_take_le 16 _) (by assumption) | with_reducible exact (words_all _ (List.length_take_le 16 _)).2.2); (case z14ep => first | with_reducible exact told_due (by assumption) | exact rfl)); intro D6 vs6 h6 tk6 hS6 hq6 hT6 F6 N6; k_dflt (have hW6 := hq6 (746, _) (by k_mem)); (try dsimp only at hW6))
  w_strict k_steps
  show wpAny _ _ _ _ _ _
  (k_dflt (refine' kun_lenL ?z15na ?z15nb ?z15nc ?_; (case z15na => exact News.isList (by assumption) (by k_mem)); (case z15nb => exact rfl); (case z15nc => exact due_fit (by assumption))))
  w_strict k_steps
  show wpAny _ _ _ _ _ _
  ((with_reducible show wpAny _ _ (subscriptTail (Expr.Name (Str.ofString "lines") _) _ _ _) _ _ _); k_dflt (refine' slice_due ?z16sF ?z16sN ?z16sS ?z16sR ?z16sm ?_ ?z16ss ?z16st; (case z16sF => k_asm); (case z16sN => k_asm); (case z16sS => assumption); (case z16sR => assumption); (case z16sm => k_mem); (case z16ss => with_unfolding_all rfl); (case z16st => kmk_pure)); intro D3 ws3 h3 F3 N3 hS3)
  w_strict k_steps
  show wpAny _ _ _ _ _ _
  (refine' ne_strs ?z17nela ?z17nelb ?z17nesa ?z17nesb ?z17nero ?_; (case z17nela => exact News.isList (by assumption) (by k_mem)); (case z17nesa => assumption); (case z17nelb => exact News.isList (by assumption) (by k_mem)); (case z17nesb => assumption); (case z17nero => k_room))
  w_strict k_steps
  show wpAny _ _ _ _ _ _
  (k_dflt (refine' splits_L ?z18zA ?z18zB ?z18zF ?z18zX ?z18zN ?z18zT ?z18zC ?z18zS ?z18zb ?z18zw ?z18zl ?z18zd ?z18zu ?z18zk ?z18zm ?z18zc ?z18zx ?z18zcl ?z18zce ?z18zkd ?z18znm ?z18zxl ?z18zs ?z18zl1 ?z18zl2 ?z18zk2 ?z18zbk ?_; (case z18zA => exact rfl); (case z18zB => k_asm); (case z18zF => k_asm); (case z18zN => k_asm); (case z18zX => k_asm); (case z18zT => k_asm); (case z18zm => exact rfl); (case z18zC => k_mem); (case z18zS => assumption); (case z18zb => assumption); (case z18zw => exact due_all _ (List.length_take_le 16 _)); (case z18zl => exact Nat.le_trans (due_len _ (List.length_take_le 16 _)) (by decide)); (case z18zd => k_room); (case z18zu => k_room); (case z18zk => exact rfl); (case z18zc => exact rfl); (case z18zx => decide); (case z18zcl => with_unfolding_all rfl); (case z18zce => decide); (case z18zkd => exact rfl); (case z18znm => decide); (case z18zxl => exact rfl); (case z18zs => exact fun _ => rfl); (case z18zl1 => exact fun _ => rfl); (case z18zl2 => exact fun _ => rfl); (case z18zk2 => exact fun _ => rfl); (case z18zbk => exact fun _ => rfl)); intro D2 refs2 made2 s2 hR2 F2 M2 N2 hb2 ho2)
  w_strict k_steps
  show wpAny _ _ _ _ _ _
  (refine' ne_refs ?z19nema ?z19nemb ?z19nera ?z19nerb ?z19neka ?z19nekb ?z19nerm ?_; (case z19nema => exact News.isList (by assumption) (by k_mem)); (case z19nera => assumption); (case z19nemb => exact News.isList (by assumption) (by k_mem)); (case z19nerb => assumption); (case z19neka => exact fun p hp => News.got (by assumption) hp); (case z19nekb => (intro p hp; exact News.got (by assumption) (by k_ownIn))); (case z19nerm => k_room))
  w_strict k_steps
  show wpAny _ _ _ _ _ _
  (refine' wrds_K3 (outer := _) ?z20Aw ?z20fw ?z20kew ?z20Bw ?z20Fw ?z20Xw ?z20Nw ?z20Tw ?z20rw ?z20Iw ?z20lw ?z20dw ?z20uw ?z20tw 180 ?z20yw ?_; (case z20yw => with_reducible exact acute_is); (case z20Aw => exact rfl); (case z20fw => exact rfl); (case z20kew => exact rfl); (case z20Bw => k_asm); (case z20Fw => k_asm); (case z20Nw => k_asm); (case z20Xw => k_asm); (case z20Tw => k_asm); (case z20rw => assumption); (case z20Iw => assumption); (case z20lw => assumption); (case z20dw => k_room); (case z20uw => k_room); (case z20tw => first | assumption | (dsimp only; omega)))
  intro D5 vs5 k5 h5 tk5 hS5 hq5 hT5 F5 N5
  have hW5 := hq5 (746, _) (by k_mem)
  try dsimp only at hW5
  w_strict k_steps
  show wpAny _ _ _ _ _ _
  (refine' join_K3 (outer := _) [] ?z21Ai ?z21fi ?z21kei ?z21Bi ?z21Fi ?z21Xi ?z21Ni ?z21Ti ?z21ji ?z21ri ?z21ki ?z21tri ?z21Si ?z21bi ?z21di ?z21ui ?z21ti ?_; (case z21Ai => exact rfl); (case z21fi => exact rfl); (case z21kei => exact rfl); (case z21Bi => k_asm); (case z21Fi => k_asm); (case z21Ni => k_asm); (case z21ki => exact fun _ h => nomatch h); (case z21Xi => k_asm); (case z21Ti => k_asm); (case z21ji => k_mem); (case z21ri => assumption); (case z21tri => assumption); (case z21Si => assumption); (case z21bi => assumption); (case z21di => k_room); (case z21ui => k_room); (case z21ti => first | assumption | (dsimp only; omega)))
  intro t4 ps4 s4 F4 N4 htr4 hb4 ho4 hT4
  w_strict k_steps
  show wpAny _ _ _ _ _ _
  ((with_reducible show wpAny _ _ (call (Value.ref 764) _ _) _ _ _); k_dflt (refine' parse_K3 (outer := _) ?z22Ap ?z22fp ?z22kep ?z22Bp ?z22Fp ?z22Xp ?z22Np ?z22Tp ?z22xp ?z22dp ?z22up ?z22tp ?z22ep ?_; (case z22Ap => exact rfl); (case z22fp => exact rfl); (case z22kep => exact rfl); (case z22Bp => k_asm); (case z22Fp => k_asm); (case z22Np => k_asm); (case z22Xp => k_asm); (case z22Tp => k_asm); (case z22dp => k_room); (case z22up => k_room); (case z22tp => first | assumption | (dsimp only; omega)); (case z22xp => first | with_reducible exact told_len (List.length_take_le 16 _) (by assumption) | with_reducible exact (words_all _ (List.length_take_le 16 _)).2.2); (case z22ep => first | with_reducible exact told_due (by assumption) | exact rfl)); intro D6 vs6 h6 tk6 hS6 hq6 hT6 F6 N6; k_dflt (have hW6 := hq6 (746, _) (by k_mem)); (try dsimp only at hW6))
  w_strict k_steps
  show wpAny _ _ _ _ _ _
  (refine' wrds_K3 (outer := _) ?z23Av ?z23fv ?z23kev ?z23Bv ?z23Fv ?z23Xv ?z23Nv ?z23Tv ?z23rv ?z23Iv ?z23lv ?z23dv ?z23uv ?z23tv 39 ?z23yv ?_; (case z23yv => with_reducible exact apo_is); (case z23Av => exact rfl); (case z23fv => exact rfl); (case z23kev => exact rfl); (case z23Bv => k_asm); (case z23Fv => k_asm); (case z23Nv => k_asm); (case z23Xv => k_asm); (case z23Tv => k_asm); (case z23rv => assumption); (case z23Iv => assumption); (case z23lv => assumption); (case z23dv => k_room); (case z23uv => k_room); (case z23tv => first | assumption | (dsimp only; omega)))
  intro D5 vs5 k5 h5 tk5 hS5 hq5 hT5 F5 N5
  have hW5 := hq5 (746, _) (by k_mem)
  try dsimp only at hW5
  w_strict k_steps
  show wpAny _ _ _ _ _ _
  (refine' join_K4 (outer := _) ?z24Aj ?z24fj ?z24kej ?z24Bj ?z24Fj ?z24Xj ?z24Nj ?z24Tj ?z24jj ?z24rj ?z24kj ?z24kD ?z24trj ?z24Sj ?z24bj ?z24dj ?z24uj ?z24tj ?_; (case z24Aj => exact rfl); (case z24fj => exact rfl); (case z24kej => exact rfl); (case z24Bj => k_asm); (case z24Fj => k_asm); (case z24Nj => k_asm); (case z24kj => exact .head _); (case z24kD => assumption); (case z24Xj => k_asm); (case z24Tj => k_asm); (case z24jj => k_mem); (case z24rj => assumption); (case z24trj => assumption); (case z24Sj => assumption); (case z24bj => assumption); (case z24dj => k_room); (case z24uj => k_room); (case z24tj => first | assumption | (dsimp only; omega)))
  intro t4 ps4 s4 F4 N4 htr4 hb4 ho4 hT4
  w_strict k_steps
  show wpAny _ _ _ _ _ _
  ((with_reducible show wpAny _ _ (call (Value.ref 764) _ _) _ _ _); k_dflt (refine' parse_K3 (outer := _) ?z25Ap ?z25fp ?z25kep ?z25Bp ?z25Fp ?z25Xp ?z25Np ?z25Tp ?z25xp ?z25dp ?z25up ?z25tp ?z25ep ?_; (case z25Ap => exact rfl); (case z25fp => exact rfl); (case z25kep => exact rfl); (case z25Bp => k_asm); (case z25Fp => k_asm); (case z25Np => k_asm); (case z25Xp => k_asm); (case z25Tp => k_asm); (case z25dp => k_room); (case z25up => k_room); (case z25tp => first | assumption | (dsimp only; omega)); (case z25xp => first | with_reducible exact told_len (List.length_take_le 16 _) (by assumption) | with_reducible exact (words_all _ (List.length_take_le 16 _)).2.2); (case z25ep => first | with_reducible exact told_due (by assumption) | exact rfl)); intro D6 vs6 h6 tk6 hS6 hq6 hT6 F6 N6; k_dflt (have hW6 := hq6 (746, _) (by k_mem)); (try dsimp only at hW6))
  w_strict k_steps
  show wpAny _ _ _ _ _ _
  ((with_reducible show wpAny _ _ (eval (Expr.ListComp (Expr.Call (Expr.Attribute _ _ _) _ _ _) _ _ _) _) _ _ _); k_dflt (refine' comp_repl (fun y => Txt.replace y (Str.ofString "´") (Str.ofString "'\"'\"'")) ?z26yF ?z26yN ?z26ym ?z26yS ?z26yz ?z26yh ?z26ycl ?z26yce ?z26ykd ?z26ynm ?z26yx ?z26yi ?z26ys ?z26yt ?z26ye ?_; (case z26yF => k_asm); (case z26yN => k_asm); (case z26yh => exact rfl); (case z26ycl => with_unfolding_all rfl); (case z26yce => decide); (case z26ykd => exact rfl); (case z26ynm => decide); (case z26yx => exact rfl); (case z26ys => exact fun _ => rfl); (case z26yt => first | assumption | (dsimp only; omega)); (case z26yi => exact fun Q' hQ => ld (by assumption) rfl hQ rfl rfl (by decide)); (case z26ym => k_mem); (case z26yS => assumption); (case z26yz => exact items_few); (case z26ye => (intro y hy t C m₂ s' Q' E' hn hv ht hQ; refine repl_el (a := Str.ofString "´") (z := Str.ofString "'\"'\"'") hn hv (item_small y hy) repl_ne repl_few ht rfl rfl rfl (by decide) rfl rfl hQ))); intro D1 h1 tk1 vs1 hS1 F1 N1 hL1)
  w_strict k_steps
  show wpAny _ _ _ _ _ _
  k_dflt (refine' eq_strs ?z27ea ?z27eb ?z27es ?z27et ?z27eu ?_; (case z27eb => assumption); (case z27ea => exact News.isList (by assumption) (by k_mem)); (case z27es => assumption); (case z27et => exact law_w (by assumption)); (case z27eu => k_room))
  w_strict k_steps
  exact h _ _ (Pre.of_fr (by assumption) (by assumption) (fun p hp => by rw [List.mem_singleton.mp hp]; exact .tail _ (.head _))) (by assumption) (Eq.trans (by assumption) (Eq.trans (by assumption) (Eq.trans (by assumption) (by assumption))))
end
end Mine

end
section
open PySem PySem.W PyProof.Rows
set_option Elab.async false
set_option maxRecDepth 100000
set_option maxHeartbeats 4000000
namespace Mine
def KKas : List Addr := [2, 3, 48, 49, 62, 63, 89, 90, 92, 93, 94, 95, 96, 119, 120, 350, 360, 366, 367, 373, 374, 380, 381, 536, 542, 543, 596, 597, 649, 655, 656, 662, 663, 664, 692, 693, 699, 700, 721, 722, 728, 729, 731, 732, 733, 734, 737, 743, 744, 750, 751, 752, 758, 759, 763, 764, 770, 771, 777, 778, 782, 783]
theorem KKas_eq : ∀ P, KKas = (KK P).map (·.1) := fun _ => rfl
/-- the law alone -/
noncomputable def qL : Program := view PySem.Challenge.pw_mq0407_01 [33]
def looseL : List Str := [Str.ofString "_sre", Str.ofString "deque", Str.ofString "_wall", Str.ofString "_twin_re_1", Str.ofString "_whence", Str.ofString "_index", Str.ofString "UnsupportedOperation", Str.ofString "IOBase", Str.ofString "BufferedIOBase", Str.ofString "TextIOBase", Str.ofString "BytesIO", Str.ofString "StringIO", Str.ofString "_kind", Str.ofString "_fspath", Str.ofString "_check_arg_types", Str.ofString "isabs", Str.ofString "join", Str.ofString "join_path", Str.ofString "dirname", Str.ofString "shlex", Str.ofString "split", Str.ofString "join_shlex", Str.ofString "_find_unsafe", Str.ofString "quote", Str.ofString "parse_http_list", Str.ofString "_law_commands", Str.ofString "_law_words"]
/-- what is seen of the top: the objects, the code's table of the join, the tokens -/
def obsL (s : Shared) : Option Obj × List (Option Obj) × Bool := (s.heap.get? 746, KKas.map s.heap.get?, Nat.ble 1 s.toks)
noncomputable def valL (w : World) : Option Obj × List (Option Obj) × Bool := (some { cls := .none, data := .fields #[] }, (KK w.params).map (fun p => some p.2), true)
theorem run_top (w : World) : headObs (fun p w => Fast.tw10156331382660048174 (Fast.tw11892475500146522536 Fast.tw14364793385576792824) p w) Fast.tw3805553451399329143 Fast.tw6613529449190102663 Fast.tw14289696077712309145 Fast.tw1435165496053646825 Fast.tw8920871248978507458
    PySem.Challenge.pw_mq0407_01 10208 w (fun s => Fast.tw4187177175401517315 qL looseL (importedModules PySem.Challenge.pw_mq0407_01.main.body) (fun _ => true) true s) obsL = some (true, openGood qL looseL, valL w) := by
  kernel_rfl
theorem left : LeftO PySem.Challenge.pw_mq0407_01 qL looseL (fun _ => true) obsL valL 10208 := fun w => by
  have h := run_top w
  rw [← Fast.te10156331382660048174, ← Fast.te11892475500146522536, ← Fast.te14364793385576792824, ← Fast.te3805553451399329143, ← Fast.te6613529449190102663, ← Fast.te14289696077712309145, ← Fast.te1435165496053646825, ← Fast.te8920871248978507458, ← Fast.te4187177175401517315] at h
  exact headObs_spec h
end Mine

end
section
open PySem PySem.W PySem.Calls PyProof.Rows PySem.W.X
set_option Elab.async false
set_option maxRecDepth 100000
set_option linter.unusedVariables false
set_option maxHeartbeats 1000000
namespace Mine
theorem fillK_Hk : (PySem.Challenge.rw_mq0407_01 = PySem.Challenge.rw_mq0407_01) ∧ KK = KK := by
  k_fill
  exact ⟨rfl, rfl⟩
theorem tr_nil : TriplesOk (#[] : Array Value).toList := by first | trivial | constructor | simp [TriplesOk]
/-- a text that takes in one module: no def, no class, no value of its own -/
noncomputable def tpE : Program := { qL with main := { qL.main with body := [.Import [⟨Str.ofString "sys", none, ⟨0, 0, 0, 0⟩⟩] ⟨0, 0, 0, 0⟩] } }
theorem ns_hide {h : Heap} {a : Addr} {m : Str → Option Value} (N : h.Ns a m) (ha : a ≠ 746) : (hideAll h [746]).Ns a m := by
  obtain ⟨o, es, ep, e, r⟩ := N
  exact ⟨o, es, ep, hideAll_get [746] e (by simpa using ha), r⟩
/-- what the walk asks of the top, the join's table hidden -/
theorem top_hide {loose : List Str} {mean : ExcName → Option Value} {mg mb : Str → Option Value} {h : Heap} {ps : Array Value} (T : Top qL loose mean mg mb h) (hJ : h.get? 746 = some (JT ps)) :
    Top tpE (loose ++ (recsOf qL).map (·.name) ++ (litsOf qL).map (·.1) ++ (clssOf qL loose).map (·.name)) mean mg mb (hideAll h [746]) where
  g := ns_hide T.g (by decide)
  b := ns_hide T.b (by decide)
  nolimit := let ⟨mc, h1, h2⟩ := T.nolimit; ⟨mc, ns_hide h1 (by decide), h2⟩
  nodigits := let ⟨mc, h1, h2⟩ := T.nodigits; ⟨mc, ns_hide h1 (by decide), h2⟩
  fn := fun d hd => nomatch (show d ∈ ([] : List DefRec) from hd)
  own := fun o ho => absurd (show o ∈ ownsOf tpE from ho) (by rw [show ownsOf tpE = [] from rfl]; exact List.not_mem_nil)
  const := fun x d hv => absurd (show valOf tpE x = some d from hv) (by rw [show valOf tpE x = none from rfl]; exact fun z => nomatch z)
  free := fun x h1 h2 _ _ _ => by
    simp only [List.mem_append, not_or] at h2
    exact T.free x h1 h2.1.1.1 h2.1.1.2 h2.1.2 h2.2
  builtins := T.builtins
  tab := fun d hd => nomatch (show d ∈ ([] : List DefRec) from hd)
  bmain := by
    obtain ⟨bm, ob, h1, h2, h3, h4, h5, h6⟩ := T.bmain
    refine ⟨bm, ob, h1, h2, hideAll_get [746] h3 fun z => ?_, h4, h5, h6⟩
    rw [List.mem_singleton.mp z, hJ] at h3
    cases h3
    cases h4
  seer := fun z => absurd z (by decide)
theorem law_name {w : World} {tp : Program} {loose : List Str} {mean : ExcName → Option Value} {mg mb : Str → Option Value} {h : Heap} (X : (KK w.params).In h) (T : Top tp loose mean mg mb h) : mg (Str.ofString "law") = some (.ref 783) := mg_of X T.g (by k_is)
theorem law_is {w : World} {s₀ : Shared} {tp : Program} {loose : List Str} {mean : ExcName → Option Value} {mg mb : Str → Option Value} {h : Heap} {fa : Addr} (y : obsL s₀ = valL w) (hk : ∀ b o, s₀.heap.get? b = some o → h.get? b = some o) (T : Top tp loose mean mg mb h) (hm : mg (Str.ofString "law") = some (.ref fa)) : fa = 783 := by
  have y2 : KKas.map s₀.heap.get? = (KK w.params).map fun p => some p.2 := congrArg (fun x => x.2.1) y
  have X₀ : (KK w.params).In s₀.heap := InK.of (fun P => KKas_eq P) w s₀ y2
  rw [law_name (Frag.In.keeps X₀ hk) T] at hm
  injection hm with q
  injection q with q
  exact q.symm
theorem law_end {w : World} {s₀ s₁ : Shared} {loose : List Str} {mean : ExcName → Option Value} {mg mb : Str → Option Value} {R : Result → Shared → Prop} {r : Addr} {us : List Value} {xs : List Int}
    (T : Top qL loose mean mg mb s₁.heap) (y : obsL s₀ = valL w) (hk : ∀ b o, s₀.heap.get? b = some o → s₁.heap.get? b = some o) (htk : s₀.toks ≤ s₁.toks) (hg : s₁.gens = #[])
    (hr : s₁.heap.get? r = some (listOf us.toArray 0)) (hI : IntsAre us xs) (hlen : xs.length ≤ 63)
    (h : ∀ s' : Shared, OldK s₁.heap s'.heap → s'.os = s₁.os → AllBare s'.gens → R (.ok (.ret (.bool true))) s') :
    codeAny (model prg w) callerA (.call (.ref 783) ⟨[.ref r], []⟩) R s₁ := by
  have y1 : s₀.heap.get? 746 = some (JT #[]) := congrArg Prod.fst y
  have y2 : KKas.map s₀.heap.get? = (KK w.params).map fun p => some p.2 := congrArg (fun x => x.2.1) y
  have y3 : Nat.ble 1 s₀.toks = true := congrArg (fun x => x.2.2) y
  have hJ := hk _ _ y1
  have X₀ : (KK w.params).In s₀.heap := InK.of (fun P => KKas_eq P) w s₀ y2
  have X₁ : (KK w.params).In s₁.heap := Frag.In.keeps X₀ hk
  have hne : ∀ b o, s₁.heap.get? b = some o → b ≠ 746 → (hideAll s₁.heap [746]).get? b = some o := fun b o e z => hideAll_get [746] e (by simpa using z)
  have X : (KK w.params).In (hideAll s₁.heap [746]) := fun a o e => hne _ _ (X₁ _ _ e) (by
    rintro rfl
    have : (KK w.params).lookup 746 = none := rfl
    rw [this] at e; cases e)
  have hr' : r ≠ 746 := by
    rintro rfl
    rw [hJ] at hr
    cases hr
  refine law_c (base := hideAll s₁.heap [746]) (g := hideAll s₁.heap [746]) (tp := tpE) (dp := 1 + claimMargin) (un := 4) (gd := some []) r us 0 xs #[] (hne _ _ hr hr') hI hlen tr_nil (by rw [hg]; exact fun _ h => nomatch h) (Nat.le_trans (Nat.le_of_ble_eq_true y3) htk)
    (below_caller _) X (top_hide T hJ) ⟨fun b o e => of_hideAll _ e, Nat.le_of_eq (hideAll_size _ _), fun p hp => by rw [List.mem_singleton.mp hp]; exact ⟨hJ, hideAll_none _ (.head _)⟩⟩ (by decide) (by decide) fun ps' s' P hb ho => h s' ⟨?_, ?_⟩ ho hb
  · intro b o e
    by_cases z : b = 746
    · subst z
      rw [hJ] at e
      cases e
      have q := (P.own _ (.head _)).1
      refine .inr (.inl ⟨(join_code X₁ hJ tr_nil).2.isCodeTable, rfl, #[], ps', rfl, ?_⟩)
      rw [Array.empty_append]
      exact q
    · exact .inl (P.keep _ _ (hne _ _ e z))
  · intro b o e
    by_cases z : b = 746
    · exact ⟨_, z ▸ (P.own _ (.head _)).1⟩
    · exact ⟨o, P.keep _ _ (hne _ _ e z)⟩
end Mine

end
section
open PySem PySem.W PySem.Calls PyProof.Rows
set_option Elab.async false
set_option maxRecDepth 100000
set_option maxHeartbeats 8000000
namespace Mine
theorem look1 : (sreFenced PySem.Challenge.pw_mq0407_01.main && ((moduleNames PySem.Challenge.pw_mq0407_01.main.body).isEmpty || lookedIntoSs (moduleNames PySem.Challenge.pw_mq0407_01.main.body) PySem.Challenge.pw_mq0407_01.main.body)) = true := by decide +kernel
theorem look2 : namesResolve PySem.Challenge.pw_mq0407_01 = true := by decide +kernel
theorem look3 : (PySem.Challenge.pw_mq0407_01.boundNames.all fun n => !worldNames.contains n) = true := by decide +kernel
theorem look4 : noRoadLSs { strict := !(importedModules PySem.Challenge.pw_mq0407_01.main.body).all cThrough.contains, foot := none, bare := (["vars", "dir", "locals"] : List Str).filter (readsOut PySem.Challenge.pw_mq0407_01 PySem.Challenge.pw_mq0407_01.main.body) } PySem.Challenge.pw_mq0407_01.main.body = true := by decide +kernel
theorem look5 : (namesMeet PySem.Challenge.pw_mq0407_01 PySem.Challenge.pw_mq0407_01.main.body fun _ n => attrL n) = true := by decide +kernel
theorem looks : looksOpen PySem.Challenge.rw_mq0407_01.row.prog = true := by
  unfold looksOpen
  exact look_both (look_both (look_both (look_both look1 look2) look3) look4) look5
theorem said : PySem.Challenge.rw_mq0407_01.wellSaid = true := by
  unfold OpenLaw.wellSaid OpenRow.wellSaid OpenRow.partSaid
  rw [looks]
  decide +kernel
end Mine

end
section
open PySem PySem.W PySem.Calls PyProof.Rows PySem.W.X
set_option Elab.async false
set_option maxRecDepth 100000
set_option linter.unusedVariables false
set_option maxHeartbeats 8000000
theorem PySem.Challenge.cw_mq0407_01_holds : PySem.Challenge.rw_mq0407_01.Holds := by
  w_on
  refine holds_law Mine.said fun said => ?_
  refine holds_openX (q := Mine.qL) (loose := Mine.looseL) (Xt := fun _ => true) (XP := fun _ _ => True) (Yf := Mine.obsL) (Ya := Mine.valL) (N := 10208) Mine.left (fun _ _ => trivial) (fun _ _ _ _ _ => trivial) (by rfl) (by rfl) (by rfl) (fun s e => recFacts_of (by rfl)) (by rfl) (by first | assumption | decide +kernel) (by decide +kernel) ⟨rfl, rfl, rfl, rfl, rfl, by decide +kernel⟩ ?hw ?hc
  case hw => w_witness2
  intro w s₀ s₁ mg mb G y fa o pm cd doc dV kV ho hd hcd hD hmg hg args vals as L hpre hlay hrd hwl hlo
  clear hd hD ho hcd
  wrow_args hpre hlay hrd hwl hlo
  have hmg' : mg (Str.ofString "law") = some (.ref fa) := hmg
  clear hmg
  obtain rfl := Mine.law_is y L.keeps G.T hmg'
  refine enter_call ?_
  refine Mine.law_end G.T y L.keeps (script_toks L rfl) hg (script_obj L (by assumption)) (by assumption) (by omega) fun s' k1 k2 k3 => ?_
  refine ⟨.inl ⟨_, WData.bool true, [], rfl, ?gr, ?ga, ?gb, fun _ => ⟨List.nodup_nil, fun _ h => nomatch h⟩⟩, k1, k2, k3⟩
  case gr => exact fun _ => rfl
  case ga => exact .bool _
  case gb => wrow_post

end
