import PyProof.Rows.All
import Wide.All
import OpenK.AllK
import Wide.FinOn
import PySem.Challenge.RW_rt0112_01
set_option Elab.async false
section
open PySem PySem.W PyProof.Rows
set_option Elab.async false
set_option maxRecDepth 100000
namespace Mine
noncomputable def topT (den : Code → Sem Fin) (p : Program) (w : World) (n₀ : Nat) (ann : Option Value) : Nat → SharedT → Thread → Option SharedT
  | 0, _, _ => none
  | n + 1, s, t => match through t with
    | true => some s
    | false => match stepOk n₀ ann t with
      | false => none
      | true => match stepT den p w s t with
        | some (s', t') => topT den p w n₀ ann n s' t'
        | none => none
theorem topT_spec {tb : String → Option Builtin} {p : Program} {w : World} {n₀ : Nat} {ann : Option Value} : ∀ {n : Nat} {s s' : SharedT} {t : Thread}, topT (denote tb) p w n₀ ann n s t = some s' → topRun tb p w n₀ ann n s.abs t = some s'.abs
  | 0, _, _, _, h => by cases h
  | n + 1, s, s', t, h => by
    unfold topT at h
    unfold topRun
    cases ht : through t with
    | true => rw [ht] at h; cases h; rfl
    | false =>
      rw [ht] at h
      cases hk : stepOk n₀ ann t with
      | false => rw [hk] at h; cases h
      | true =>
        rw [hk] at h
        cases hs : stepT (denote tb) p w s t with
        | none => rw [hs] at h; cases h
        | some r => obtain ⟨s₂, t₂⟩ := r; rw [hs] at h; dsimp only; rw [stepT_spec hs]; exact topT_spec h
noncomputable def impT (den : Code → Sem Fin) (p : Program) (w : World) : Nat → SharedT → Thread → Option SharedT
  | 0, _, _ => none
  | n + 1, s, t => match t.atExitBegin with
    | some l => match l with
      | [] => some s
      | _ :: _ => none
    | none => match stepT den p w s t with
      | some (s', t') => impT den p w n s' t'
      | none => none
theorem impT_spec {tb : String → Option Builtin} {p : Program} {w : World} : ∀ {n : Nat} {s s' : SharedT} {t : Thread}, impT (denote tb) p w n s t = some s' → importEnds tb p w n s.abs t = some s'.abs
  | 0, _, _, _, h => by cases h
  | n + 1, s, s', t, h => by
    unfold impT at h
    unfold importEnds
    cases ht : t.atExitBegin with
    | some l =>
      rw [ht] at h
      cases l with
      | nil => cases h; rfl
      | cons _ _ => cases h
    | none =>
      rw [ht] at h
      cases hs : stepT (denote tb) p w s t with
      | none => rw [hs] at h; cases h
      | some r => obtain ⟨s₂, t₂⟩ := r; rw [hs] at h; dsimp only; rw [stepT_spec hs]; exact impT_spec h
noncomputable def treeOf : List Obj → Nat → BT → Option BT
  | [], _, T => some T
  | o :: l, n, T => match ((T.ins n o).get n).isSome with
    | true => treeOf l (n + 1) (T.ins n o)
    | false => none
theorem treeOf_spec {life : Life} : ∀ {l : List Obj} {n : Nat} {T T' : BT}, treeOf l n T = some T' → absHeap T' (n + l.length) life = ⟨(absHeap T n life).objs ++ l.toArray, life⟩
  | [], n, T, T', h => by
    cases h
    show absHeap T n life = _
    simp [absHeap]
  | o :: l, n, T, T', h => by
    unfold treeOf at h
    cases hs : ((T.ins n o).get n).isSome with
    | false => rw [hs] at h; cases h
    | true =>
      rw [hs] at h
      have ih := treeOf_spec (life := life) h
      rw [show n + (o :: l).length = n + 1 + l.length by simp [Nat.add_comm, Nat.add_left_comm], ih, absHeap_ins hs]
      show (⟨((absHeap T n life).push o).objs ++ l.toArray, life⟩ : Heap) = _
      congr 1
      show (absHeap T n life).objs.push o ++ l.toArray = _
      rw [Array.push_eq_append, Array.append_assoc]
      simp
noncomputable def fencedT (fence : Shared → Option Shared) (s : SharedT) : Option SharedT := match fence s.abs with
  | none => none
  | some s₀ => match treeOf s₀.heap.objs.toList 0 .nil with
    | none => none
    | some T => some ⟨T, s₀.heap.objs.toList.length, s₀.heap.life, s₀.gens, s₀.drawn, s₀.toks, s₀.os⟩
theorem fencedT_spec {fence : Shared → Option Shared} {s s' : SharedT} (h : fencedT fence s = some s') : fence s.abs = some s'.abs := by
  unfold fencedT at h
  cases hf : fence s.abs with
  | none => rw [hf] at h; cases h
  | some s₀ =>
    rw [hf] at h
    dsimp only at h
    cases ht : treeOf s₀.heap.objs.toList 0 .nil with
    | none => rw [ht] at h; cases h
    | some T =>
      rw [ht] at h
      cases h
      have e := treeOf_spec (life := s₀.heap.life) ht
      rw [Nat.zero_add] at e
      have e2 : absHeap T s₀.heap.objs.toList.length s₀.heap.life = s₀.heap := by
        rw [e]
        obtain ⟨⟨objs, life⟩, _, _, _, _⟩ := s₀
        simp [absHeap, BT.list]
      show some s₀ = some ⟨absHeap T s₀.heap.objs.toList.length s₀.heap.life, s₀.gens, s₀.drawn, s₀.toks, s₀.os⟩
      rw [e2]
noncomputable def startT (p : Program) : SharedT := ⟨.nil, 0, {}, #[], {}, 1, (start p).1.os⟩
theorem startT_abs (p : Program) : (startT p).abs = (start p).1 := rfl
noncomputable def headT {β : Type} (den : Code → Sem Fin) (p : Program) (w : World) (N : Nat) (fence : Shared → Option Shared) (ok : Heap → Shared → Bool) (f : Shared → β) : Option β :=
  match impT den (opening p) w N (startT (opening p)) (start (opening p)).2 with
  | none => none
  | some s => match fencedT fence s with
    | none => none
    | some s₀ => match s₀.abs.heap.isNs mainGlobals && s₀.gens.size == 0 with
      | false => none
      | true => match topT den p w s₀.n (s₀.abs.heap.nsMap mainGlobals "__annotations__") N s₀ (topStub p) with
        | none => none
        | some s₁ => match ok s₀.abs.heap s₁.abs with
          | false => none
          | true => some (f s₁.abs)
noncomputable def okTop (p : Program) (h₀ : Heap) (s₁ : Shared) : Bool := staticsOk (importedModules p.main.body) h₀ s₁.heap && namesBound p s₁.heap && gensDone s₁ && laidKept h₀ s₁.heap
theorem left_of {p q : Program} {loose : List Str} {Xt : Shared → Bool} {α : Type} {Yf : Shared → α} {Ya : World → α} {N : Nat} {g0 : Bool}
    (h : ∀ w : World, headT (denote treeTable) p w N (fenceModules? p) (okTop p) (fun s => (openSeen q loose (importedModules p.main.body) Xt g0 s, Yf s)) = some (openGood q loose, Ya w)) : LeftO p q loose Xt Yf Ya N g0 := fun w => by
  have h := h w
  unfold headT at h
  unfold openEnds fencedOpening
  cases h1 : impT (denote treeTable) (opening p) w N (startT (opening p)) (start (opening p)).2 with
  | none => rw [h1] at h; cases h
  | some s =>
    rw [h1] at h
    dsimp only at h
    have e1 := impT_spec h1
    rw [startT_abs] at e1
    rw [e1]
    cases h2 : fencedT (fenceModules? p) s with
    | none => rw [h2] at h; cases h
    | some s₀ =>
      rw [h2] at h
      dsimp only at h
      have e2 := fencedT_spec h2
      show (((fenceModules? p s.abs)).bind (topFrom treeTable p w N)).map _ = _
      rw [e2]
      show (topFrom treeTable p w N s₀.abs).map _ = _
      unfold topFrom
      have eg : s₀.abs.gens = s₀.gens := rfl
      rw [eg]
      cases h3 : (s₀.abs.heap.isNs mainGlobals && s₀.gens.size == 0) with
      | false => rw [h3] at h; cases h
      | true =>
        rw [h3] at h
        dsimp only at h ⊢
        have en : s₀.abs.heap.objs.size = s₀.n := absHeap_size _ _ _
        rw [en]
        cases h4 : topT (denote treeTable) p w s₀.n (s₀.abs.heap.nsMap mainGlobals "__annotations__") N s₀ (topStub p) with
        | none => rw [h4] at h; cases h
        | some s₁ =>
          rw [h4] at h
          dsimp only at h
          rw [topT_spec h4]
          cases h5 : okTop p s₀.abs.heap s₁.abs with
          | false => rw [h5] at h; cases h
          | true =>
            rw [h5] at h
            have h5' : (staticsOk (importedModules p.main.body) s₀.abs.heap s₁.abs.heap && namesBound p s₁.abs.heap && gensDone s₁.abs && laidKept s₀.abs.heap s₁.abs.heap) = true := h5
            show (Option.bind (some s₁.abs) fun s => match staticsOk (importedModules p.main.body) s₀.abs.heap s.heap && namesBound p s.heap && gensDone s && laidKept s₀.abs.heap s.heap with | true => some s | false => none).map _ = _
            show ((match staticsOk (importedModules p.main.body) s₀.abs.heap s₁.abs.heap && namesBound p s₁.abs.heap && gensDone s₁.abs && laidKept s₀.abs.heap s₁.abs.heap with | true => some s₁.abs | false => none)).map _ = _
            rw [h5']
            exact h
end Mine
end
section
open PySem PySem.W PySem.W.X PyProof.Rows
set_option Elab.async false
set_option maxRecDepth 100000
namespace Mine
noncomputable abbrev Dyn := List (Addr × Obj)
structure SV where
  den : Code → Sem Fin
  entB : Code → Sem Fin
  roomB : Sem Fin → Sem Fin
  quiet : Code → Bool
  prog : Program
  w : World
  kt : KT
  n₁ : Nat
noncomputable def SV.look (V : SV) (a : Addr) : Option Obj := match Nat.blt a V.n₁ with
  | true => V.kt.get a
  | false => none
noncomputable def St (V : SV) (h : Heap) : Prop := ∀ a o, V.look a = some o → h.get? a = some o
structure SV.Ok (V : SV) : Prop where
  den : denote table = V.den
  entB : (fun c => Sem.bind (enterFrame 0) fun _ => Sem.pure (.again c)) = V.entB
  room : (fun m => Sem.bind (cRoom "comparison") fun _ => m) = V.roomB
  quiet : Code.quiet = V.quiet
  nolim : ∀ h, St V h → h.NoLimit
structure Cut where
  fr : Option (List Env)
  code : Code
  pre : Dyn
  need : Nat
  nA : Nat
  nT : Nat
  res : List Addr → List Tok → Result
  post : List Addr → List Tok → List Obj
  new : List Addr → List Tok → List Obj
  more : Option (List Addr → List Tok → Dyn)
structure Ent where
  body : List Stmt
  env : Env
  stop : Bool
structure Fini where
  out : Result ⊕ Code
  picks : Dyn
noncomputable abbrev Of (α : Type) := (Nat → Addr) → (Nat → Tok) → α
inductive Tm where
  | a (x : Addr)
  | c (x : Code)
  | t (x : Sem Fin)
  | l (x : Dyn)
  | r (x : Result ⊕ Code)
  | e (x : List Env)
inductive Kt where
  | base
  | ret (c : Code) (k : Result → Sem Fin) (κ : Kt)
noncomputable def tr (i : Nat) (f : Nat → Nat) : Nat → Nat := fun k => match Nat.blt k i with | true => f k | false => 0
noncomputable def seqOf (f : Nat → Nat) : Nat → Nat → List Nat
  | _, 0 => []
  | i, n + 1 => f i :: seqOf f (i + 1) n
noncomputable def nth : Dyn → Nat → Option (Addr × Obj)
  | [], _ => none
  | p :: l, n => match n with | 0 => some p | n + 1 => nth l n
noncomputable def setN : Dyn → Nat → Obj → Dyn
  | [], _, _ => []
  | p :: l, n, o => match n with | 0 => (p.1, o) :: l | n + 1 => p :: setN l n o
noncomputable def take1 : Dyn → Nat → Option ((Addr × Obj) × Dyn)
  | [], _ => none
  | p :: l, n => match n with
    | 0 => some (p, l)
    | n + 1 => match take1 l n with
      | some (q, r) => some (q, p :: r)
      | none => none
noncomputable def pickN : Nat → List Nat → Dyn → Option (List Nat × Dyn × Dyn)
  | 0, hs, D => some (hs, [], D)
  | n + 1, hs, D => match hs with
    | [] => none
    | h :: hs => match take1 D h with
      | none => none
      | some (p, D) => match pickN n hs D with
        | some (hs, L, D) => some (hs, p :: L, D)
        | none => none
noncomputable def zipAO : List Addr → List Obj → Dyn
  | a :: l, o :: r => (a, o) :: zipAO l r
  | _, _ => []
noncomputable def addrs : Dyn → List Addr
  | [] => []
  | p :: l => p.1 :: addrs l
noncomputable def app : Dyn → Dyn → Dyn
  | [], r => r
  | p :: l, r => p :: app l r
noncomputable def splitN : Nat → Dyn → Option (Dyn × Dyn)
  | 0, D => some ([], D)
  | n + 1, D => match D with
    | [] => none
    | p :: D => match splitN n D with
      | none => none
      | some (A, B) => some (p :: A, B)
noncomputable def pickR : Option (List Nat × Dyn × Dyn) → Option (List Nat × Dyn × Dyn)
  | none => none
  | some (hs, L, R) => match hs with
    | [] => none
    | m :: hs => match splitN m R with
      | none => none
      | some (A, B) => some (hs, app L B, A)
noncomputable def pickT (n : Nat) (hs : List Nat) (D : Dyn) : Option (List Nat × Dyn × Dyn) := match Nat.ble 100 n with
  | false => pickN n hs D
  | true => pickR (pickN (n - 100) hs D)
noncomputable def moreOf (R : Dyn) (as : List Addr) (ts : List Tok) : Option (List Addr → List Tok → Dyn) → Dyn
  | none => R
  | some f => app R (f as ts)
noncomputable def Cut.extra (k : Cut) (as : List Addr) (ts : List Tok) : Dyn := match k.more with
  | none => []
  | some f => f as ts
noncomputable def light (c : Code) : Bool := match c with
  | .builtin id _ => match Nat.beq (PySem.code id) 35714603318786955769505017188 with | true => false | false => true
  | _ => true
noncomputable def notCall (c : Code) : Bool := match c with
  | .call .. => false
  | _ => true
noncomputable def ownEnvs (c : Code) : List Env := match c.isFrame with
  | true => match c.env? with
    | some e => [e]
    | none => []
  | false => []
noncomputable def eapp : List Env → List Env → List Env
  | [], r => r
  | e :: l, r => e :: eapp l r
noncomputable def envsK (l₀ : List Env) : Kt → List Env
  | .base => l₀
  | .ret c _ κ => eapp (ownEnvs c) (envsK l₀ κ)
noncomputable abbrev SimTy := List Nat → List (Of Cut) → List (Of Ent) → Nat → Kt → Code → Sem Fin → Dyn → Nat → Nat → List Tm → List Tm → Option (List Tm × List Tm)
section
variable (V : SV) (fr₀ : Option (List Env)) (ρ : Nat → Addr) (τ : Nat → Tok) (z : Of Fini)
noncomputable def fini (o : Result ⊕ Code) (hs : List Nat) (D : Dyn) (i j : Nat) (F S : List Tm) : Option (List Tm × List Tm) := match hs with
  | [] => none
  | n :: hs => match pickT n hs D with
    | none => none
    | some (_, L, _) => some (.r o :: .l L :: F, .r (z (tr i ρ) (tr j τ)).out :: .l (z (tr i ρ) (tr j τ)).picks :: S)
noncomputable def retS (ih : SimTy) (r : Result) (hs : List Nat) (ks : List (Of Cut)) (es : List (Of Ent)) (room : Nat) (κ : Kt) (D : Dyn) (i j : Nat) (F S : List Tm) : Option (List Tm × List Tm) := match κ with
  | .base => fini ρ τ z (.inl r) hs D i j F S
  | .ret c k κ => ih hs ks es (room + 1) κ c (k r) D i j F S
noncomputable def cutG (go : Result → List Nat → List (Of Cut) → Dyn → Nat → Nat → List Tm → List Tm → Option (List Tm × List Tm)) (c : Code) (room : Nat) (hs : List Nat) (ks : List (Of Cut)) (D : Dyn) (i j : Nat) (F S : List Tm) (k : Cut) : Option (List Tm × List Tm) := match k with
  | ⟨_, code, pre, need, nA, nT, res, post, new, more⟩ => match Nat.ble need room with
    | false => none
    | true => match hs with
      | [] => none
      | n :: hs => match pickT n hs D with
        | none => none
        | some (hs, L, R) => go (res (seqOf ρ i nA) (seqOf τ j nT)) hs ks (app (zipAO (addrs pre) (post (seqOf ρ i nA) (seqOf τ j nT))) (app (zipAO (seqOf ρ i nA) (new (seqOf ρ i nA) (seqOf τ j nT))) (moreOf R (seqOf ρ i nA) (seqOf τ j nT) more))) (i + nA) (j + nT) (.c c :: .l L :: F) (.c code :: .l pre :: S)
noncomputable def cutK (fk : List Env → List Env) (go : Result → List Nat → List (Of Cut) → Dyn → Nat → Nat → List Tm → List Tm → Option (List Tm × List Tm)) (c : Code) (room : Nat) (hs : List Nat) (ks : List (Of Cut)) (D : Dyn) (i j : Nat) (F S : List Tm) (k : Cut) : Option (List Tm × List Tm) := match k.fr with
  | none => cutG ρ τ go c room hs ks D i j F S k
  | some l => match fr₀ with
    | none => none
    | some l₀ => cutG ρ τ go c room hs ks D i j (.e (fk l₀) :: F) (.e l :: S) k
noncomputable def cutS (fk : List Env → List Env) (go : Result → List Nat → List (Of Cut) → Dyn → Nat → Nat → List Tm → List Tm → Option (List Tm × List Tm)) (c : Code) (room : Nat) (hs : List Nat) (ks : List (Of Cut)) (D : Dyn) (i j : Nat) (F S : List Tm) : Option (List Tm × List Tm) := match ks with
  | [] => none
  | kf :: ks => cutK fr₀ ρ τ fk go c room hs ks D i j F S (kf (tr i ρ) (tr j τ))
noncomputable def loadS (go : Obj → List Nat → List Tm → List Tm → Option (List Tm × List Tm)) (a : Addr) (hs : List Nat) (D : Dyn) (F S : List Tm) : Option (List Tm × List Tm) := match hs with
  | [] => none
  | h :: hs => match h with
    | 0 => match V.look a with
      | some o => go o hs F S
      | none => none
    | h + 1 => match nth D h with
      | some (b, o) => go o hs (.a a :: F) (.a b :: S)
      | none => none
noncomputable def simStep (ih : SimTy) : SimTy := fun hs ks es room κ c t D i j F S => match t with
  | .pure fin => match fin with
    | .done f => retS ρ τ z ih (.ok f) hs ks es room κ D i j F S
    | .again c' => match V.quiet c' with
      | false => none
      | true => match hs with
        | [] => none
        | h :: hs => match h with
          | 0 => ih hs ks es room κ c' (V.den c') D i j F S
          | 1 => cutS fr₀ ρ τ (fun l => envsK l κ) (fun r hs ks D i j F S => retS ρ τ z ih r hs ks es room κ D i j F S) c' room hs ks D i j F S
          | _ => match κ with
            | .base => fini ρ τ z (.inr c') hs D i j F S
            | .ret .. => none
  | .raise e => retS ρ τ z ih (.error e) hs ks es room κ D i j F S
  | .rule _ k => ih hs ks es room κ c (k ()) D i j F S
  | .at _ k => ih hs ks es room κ c (k ()) D i j F S
  | .point _ k => ih hs ks es room κ c (k ()) D i j F S
  | .ask k => ih hs ks es room κ c (k ⟨V.prog, V.w.params⟩) D i j F S
  | .load a _ k => loadS V (fun o hs F S => ih hs ks es room κ c (k o) D i j F S) a hs D F S
  | .loadIfAlive a k => loadS V (fun o hs F S => ih hs ks es room κ c (k (some o)) D i j F S) a hs D F S
  | .alloc o k => match o.isFreed with
    | true => none
    | false => ih hs ks es room κ c (k (ρ i)) ((ρ i, o) :: D) (i + 1) j F S
  | .update a _ f k => match hs with
    | [] => none
    | h :: hs => match nth D h with
      | none => none
      | some (b, o) => match (f o).isFreed with
        | true => none
        | false => ih hs ks es room κ c (k ()) (setN D h (f o)) i j (.a a :: F) (.a b :: S)
  | .fresh k => match hs with
    | [] => none
    | x :: hs' => match Nat.beq x 1000 with
      | false => ih hs ks es room κ c (k (τ j)) D i (j + 1) F S
      | true => match skim ⟨V.prog, V.w.params⟩ 8 (k (τ j + 1)) with
        | .fresh k' => ih hs' ks es room κ c (k' (τ j + 2)) D i (j + 1) F S
        | _ => none
  | .handled own k => match own with
    | false => ih hs ks es room κ c (k none) D i j F S
    | true => none
  | .stack k => match notCall c with
    | true => match light c with
      | false => none
      | true => ih hs ks es room κ c (k []) D i j (.t t :: F) (.t (V.roomB (k [])) :: S)
    | false => match es with
      | [] => none
      | e :: es => match light c with
        | false => none
        | true => match e (tr i ρ) (tr j τ) with
          | ⟨body, env, stop⟩ => match stop with
            | false => ih hs ks es room κ (.func body env) (V.den (.func body env)) D i j (.t t :: F) (.t (V.entB (.func body env)) :: S)
            | true => match κ with
              | .base => fini ρ τ z (.inr (.func body env)) hs D i j (.t t :: F) (.t (V.entB (.func body env)) :: S)
              | .ret .. => none
  | .call c' hd _ _ k => match hd with
    | some _ => none
    | none => match hs with
      | [] => none
      | h :: hs => match h with
        | 0 => match light c with
          | false => none
          | true => match room with
            | 0 => none
            | room + 1 => ih hs ks es room (.ret c k κ) c' (V.den c') D i j F S
        | _ => match light c with
          | false => none
          | true => match room with
            | 0 => none
            | room + 1 => cutS fr₀ ρ τ (fun l => eapp (ownEnvs c) (envsK l κ)) (fun r hs ks D i j F S => ih hs ks es (room + 1) κ c (k r) D i j F S) c' room hs ks D i j F S
  | .unsupported _ => none
  | .finish _ => none
  | .register .. => none
  | .choose .. => none
  | .os .. => none
  | .newGen .. => none
  | .genState .. => none
  | .resume .. => none
  | .yield .. => none
  | .fork .. => none
  | .thread _ => none
  | .await .. => none
noncomputable def sim : Nat → SimTy
  | 0 => fun _ _ _ _ _ _ _ _ _ _ _ _ => none
  | n + 1 => simStep V fr₀ ρ τ z (sim n)
end
structure Got (V : SV) (M : List Addr) (hI : Heap) (L : Dyn) (h : Heap) : Prop where
  st : St V h
  big : V.n₁ ≤ hI.objs.size
  size : hI.objs.size ≤ h.objs.size
  keep : ∀ b o, b ∉ M → hI.get? b = some o → h.get? b = some o
  has : ∀ p ∈ L, h.get? p.1 = some p.2
  own : ∀ p ∈ L, p.1 ∈ M ∨ hI.objs.size ≤ p.1
  ge : ∀ p ∈ L, V.n₁ ≤ p.1
  nd : (L.map (·.1)).Nodup
structure Shows (V : SV) (D : Dyn) (h : Heap) : Prop where
  st : St V h
  big : V.n₁ ≤ h.objs.size
  has : ∀ p ∈ D, h.get? p.1 = some p.2
  ge : ∀ p ∈ D, V.n₁ ≤ p.1
  nd : (D.map (·.1)).Nodup
structure Fit (n : Nat) (A : Around) : Prop where
  depth : A.depth + 6 * n + 6 < recursionLimit
  units : A.units + 10 * n + 10 < cLine
  handled : A.handled = none
noncomputable def Spec (V : SV) (fr : Option (List Env)) (need : Nat) (c : Code) (pre : Dyn) (P : Result → Dyn → Prop) : Prop :=
  ∀ (A : Around) (s : Shared) (R : Result → Shared → Prop), Fit need A → (∀ l, fr = some l → A.frames = some l) → Shows V pre s.heap → 0 < s.toks →
    (∀ r L h' tk', P r L → Got V (pre.map (·.1)) s.heap L h' → 0 < tk' → R r ⟨h', s.gens, s.drawn, tk', s.os⟩) → codeAny (model V.prog V.w) A c R s
noncomputable def Cut.Ok (V : SV) (k : Cut) : Prop := Spec V k.fr k.need k.code k.pre fun r L => ∃ as ts, as.length = k.nA ∧ ts.length = k.nT ∧ r = k.res as ts ∧ L = zipAO (addrs k.pre) (k.post as ts) ++ zipAO as (k.new as ts) ++ k.extra as ts
theorem app_eq : ∀ l r : Dyn, app l r = l ++ r
  | [], _ => rfl
  | p :: l, r => by rw [app, app_eq l r]; rfl
theorem addrs_eq : ∀ l : Dyn, addrs l = l.map (·.1)
  | [] => rfl
  | p :: l => by rw [addrs, addrs_eq l]; rfl
theorem nth_mem : ∀ {D : Dyn} {n : Nat} {p : Addr × Obj}, nth D n = some p → p ∈ D
  | [], _, _, h => by cases h
  | q :: l, 0, p, h => by cases h; exact .head _
  | q :: l, n + 1, p, h => .tail _ (nth_mem (D := l) (n := n) h)
theorem setN_map : ∀ {D : Dyn} {n : Nat} {o : Obj}, (setN D n o).map (·.1) = D.map (·.1)
  | [], _, _ => rfl
  | q :: l, 0, o => rfl
  | q :: l, n + 1, o => by show q.1 :: (setN l n o).map (·.1) = _; rw [setN_map]; rfl
theorem setN_mem : ∀ {D : Dyn} {n : Nat} {o : Obj} {b : Addr} {ob : Obj}, nth D n = some (b, ob) → (D.map (·.1)).Nodup → ∀ p ∈ setN D n o, p = (b, o) ∨ (p ∈ D ∧ p.1 ≠ b)
  | [], _, _, _, _, h, _, _, _ => by cases h
  | q :: l, 0, o, b, ob, h, nd, p, hp => by
    cases h
    rcases List.mem_cons.mp hp with rfl | hp
    · exact .inl rfl
    · refine .inr ⟨.tail _ hp, fun e => ?_⟩
      exact (List.nodup_cons.mp nd).1 (List.mem_map.mpr ⟨p, hp, e⟩)
  | q :: l, n + 1, o, b, ob, h, nd, p, hp => by
    rcases List.mem_cons.mp hp with rfl | hp
    · refine .inr ⟨.head _, fun e => ?_⟩
      have := nth_mem (D := l) (n := n) h
      exact (List.nodup_cons.mp nd).1 (List.mem_map.mpr ⟨_, this, e.symm⟩)
    · rcases setN_mem (D := l) (n := n) h (List.nodup_cons.mp nd).2 p hp with e | ⟨e, ne⟩
      · exact .inl e
      · exact .inr ⟨.tail _ e, ne⟩
theorem take1_perm : ∀ {D : Dyn} {n : Nat} {p : Addr × Obj} {R : Dyn}, take1 D n = some (p, R) → D.Perm (p :: R)
  | [], _, _, _, h => by cases h
  | q :: l, 0, p, R, h => by cases h; exact .refl _
  | q :: l, n + 1, p, R, h => by
    unfold take1 at h
    dsimp only at h
    cases e : take1 l n with
    | none => rw [e] at h; cases h
    | some x =>
      obtain ⟨q', r⟩ := x
      rw [e] at h
      cases h
      exact (List.Perm.cons q (take1_perm e)).trans (.swap ..)
theorem pickN_perm : ∀ {n : Nat} {hs hs' : List Nat} {D L R : Dyn}, pickN n hs D = some (hs', L, R) → D.Perm (L ++ R)
  | 0, _, _, _, _, _, h => by cases h; exact .refl _
  | n + 1, [], _, _, _, _, h => by cases h
  | n + 1, x :: hs, hs', D, L, R, h => by
    unfold pickN at h
    dsimp only at h
    cases e : take1 D x with
    | none => rw [e] at h; cases h
    | some y =>
      obtain ⟨p, D'⟩ := y
      rw [e] at h
      dsimp only at h
      cases e' : pickN n hs D' with
      | none => rw [e'] at h; cases h
      | some y =>
        obtain ⟨hs₂, L₂, D₂⟩ := y
        rw [e'] at h
        cases h
        exact (take1_perm e).trans (List.Perm.cons p (pickN_perm e'))
theorem splitN_eq : ∀ {n : Nat} {D A B : Dyn}, splitN n D = some (A, B) → D = A ++ B
  | 0, _, _, _, h => by cases h; rfl
  | n + 1, [], _, _, h => by cases h
  | n + 1, p :: D, A, B, h => by
    unfold splitN at h
    dsimp only at h
    cases e : splitN n D with
    | none => rw [e] at h; cases h
    | some x =>
      obtain ⟨A', B'⟩ := x
      rw [e] at h
      cases h
      rw [splitN_eq e]
      rfl
theorem pickT_perm {n : Nat} {hs hs' : List Nat} {D L R : Dyn} (h : pickT n hs D = some (hs', L, R)) : D.Perm (L ++ R) := by
  unfold pickT at h
  split at h
  · exact pickN_perm h
  · cases e : pickN (n - 100) hs D with
    | none => rw [e] at h; cases h
    | some x =>
      obtain ⟨hs₂, L₂, R₂⟩ := x
      rw [e] at h
      unfold pickR at h
      dsimp only at h
      cases hs₂ with
      | nil => cases h
      | cons m hs₃ =>
        dsimp only at h
        cases e' : splitN m R₂ with
        | none => rw [e'] at h; cases h
        | some y =>
          obtain ⟨A, B⟩ := y
          rw [e'] at h
          cases h
          rw [app_eq]
          have p := pickN_perm e
          rw [splitN_eq e'] at p
          refine p.trans ?_
          rw [List.append_assoc]
          exact List.Perm.append_left _ List.perm_append_comm
theorem moreOf_eq (R : Dyn) (as : List Addr) (ts : List Tok) (k : Cut) : moreOf R as ts k.more = R ++ k.extra as ts := by
  unfold moreOf Cut.extra
  cases k.more with
  | none => exact (List.append_nil R).symm
  | some f => exact app_eq _ _
end Mine
end
section
open PySem PySem.W PySem.W.X PyProof.Rows
set_option Elab.async false
set_option maxRecDepth 100000
namespace Mine
noncomputable def Suf (F S : List Tm) (x : Option (List Tm × List Tm)) : Prop := ∀ X Y, x = some (X, Y) → ∃ X' Y', X = X' ++ F ∧ Y = Y' ++ S ∧ X'.length = Y'.length
theorem Suf.none {F S : List Tm} : Suf F S none := fun _ _ h => by cases h
theorem Suf.self {F S : List Tm} : Suf F S (some (F, S)) := fun _ _ h => by cases h; exact ⟨[], [], rfl, rfl, rfl⟩
theorem Suf.cons {F S : List Tm} {x y : Tm} {r : Option (List Tm × List Tm)} (h : Suf (x :: F) (y :: S) r) : Suf F S r := fun X Y e => by
  obtain ⟨X', Y', a, b, c⟩ := h X Y e
  exact ⟨X' ++ [x], Y' ++ [y], by simp [a], by simp [b], by simp [c]⟩
theorem Suf.eq {F S : List Tm} {r : Option (List Tm × List Tm)} (h : Suf F S r) (hl : F.length = S.length) {L : List Tm} (e : r = some (L, L)) : F = S := by
  obtain ⟨X', Y', a, b, c⟩ := h L L e
  exact (List.append_inj (a.symm.trans b) c).2
section
variable {V : SV} {fr₀ : Option (List Env)} {ρ : Nat → Addr} {τ : Nat → Tok} {z : Of Fini}
theorem fini_suf {o : Result ⊕ Code} {hs : List Nat} {D : Dyn} {i j : Nat} {F S : List Tm} : Suf F S (fini ρ τ z o hs D i j F S) := by
  unfold fini
  split
  · exact .none
  · split
    · exact .none
    · exact (Suf.self.cons).cons
variable {ih : SimTy} (IH : ∀ hs ks es room κ c t D i j F S, Suf F S (ih hs ks es room κ c t D i j F S))
include IH
theorem retS_suf {r : Result} {hs : List Nat} {ks : List (Of Cut)} {es : List (Of Ent)} {room : Nat} {κ : Kt} {D : Dyn} {i j : Nat} {F S : List Tm} : Suf F S (retS ρ τ z ih r hs ks es room κ D i j F S) := by
  unfold retS
  split
  · exact fini_suf
  · exact IH _ _ _ _ _ _ _ _ _ _ _ _
omit IH in
theorem cutG_suf {go : Result → List Nat → List (Of Cut) → Dyn → Nat → Nat → List Tm → List Tm → Option (List Tm × List Tm)} (G : ∀ r hs ks D i j F S, Suf F S (go r hs ks D i j F S)) {c : Code} {room : Nat} {hs : List Nat} {ks : List (Of Cut)} {D : Dyn} {i j : Nat} {F S : List Tm} {k : Cut} : Suf F S (cutG ρ τ go c room hs ks D i j F S k) := by
  unfold cutG
  dsimp only
  split
  · exact .none
  · split
    · exact .none
    · split
      · exact .none
      · exact ((G _ _ _ _ _ _ _ _).cons).cons
omit IH in
theorem cutS_suf {fk : List Env → List Env} {go : Result → List Nat → List (Of Cut) → Dyn → Nat → Nat → List Tm → List Tm → Option (List Tm × List Tm)} (G : ∀ r hs ks D i j F S, Suf F S (go r hs ks D i j F S)) {c : Code} {room : Nat} {hs : List Nat} {ks : List (Of Cut)} {D : Dyn} {i j : Nat} {F S : List Tm} : Suf F S (cutS fr₀ ρ τ fk go c room hs ks D i j F S) := by
  unfold cutS
  split
  · exact .none
  · unfold cutK
    split
    · exact cutG_suf G
    · split
      · exact .none
      · exact (cutG_suf G).cons
omit IH in
theorem loadS_suf {go : Obj → List Nat → List Tm → List Tm → Option (List Tm × List Tm)} (G : ∀ o hs F S, Suf F S (go o hs F S)) {a : Addr} {hs : List Nat} {D : Dyn} {F S : List Tm} : Suf F S (loadS V go a hs D F S) := by
  unfold loadS
  split
  · exact .none
  · split
    · split
      · exact G _ _ _ _
      · exact .none
    · split
      · exact (G _ _ _ _).cons
      · exact .none
theorem simStep_suf : ∀ hs ks es room κ c t D i j F S, Suf F S (simStep V fr₀ ρ τ z ih hs ks es room κ c t D i j F S) := by
  intro hs ks es room κ c t D i j F S
  cases t with
  | pure fin =>
    cases fin with
    | done f => exact retS_suf IH
    | again c' =>
      unfold simStep
      dsimp only
      split
      · exact .none
      · split
        · exact .none
        · split
          · exact IH _ _ _ _ _ _ _ _ _ _ _ _
          · exact cutS_suf fun _ _ _ _ _ _ _ _ => retS_suf IH
          · split
            · exact fini_suf
            · exact .none
  | raise e => exact retS_suf IH
  | rule => exact IH _ _ _ _ _ _ _ _ _ _ _ _
  | «at» => exact IH _ _ _ _ _ _ _ _ _ _ _ _
  | point => exact IH _ _ _ _ _ _ _ _ _ _ _ _
  | ask => exact IH _ _ _ _ _ _ _ _ _ _ _ _
  | load => exact loadS_suf fun _ _ _ _ => IH _ _ _ _ _ _ _ _ _ _ _ _
  | loadIfAlive => exact loadS_suf fun _ _ _ _ => IH _ _ _ _ _ _ _ _ _ _ _ _
  | alloc o k =>
    unfold simStep
    dsimp only
    split
    · exact .none
    · exact IH _ _ _ _ _ _ _ _ _ _ _ _
  | update a q f k =>
    unfold simStep
    dsimp only
    split
    · exact .none
    · split
      · exact .none
      · split
        · exact .none
        · exact (IH _ _ _ _ _ _ _ _ _ _ _ _).cons
  | fresh k =>
    unfold simStep
    dsimp only
    split
    · exact .none
    · split
      · exact IH _ _ _ _ _ _ _ _ _ _ _ _
      · split
        · exact IH _ _ _ _ _ _ _ _ _ _ _ _
        · exact .none
  | handled own k => cases own with
    | false => exact IH _ _ _ _ _ _ _ _ _ _ _ _
    | true => exact .none
  | stack k =>
    unfold simStep
    dsimp only
    split
    · split
      · exact .none
      · exact (IH _ _ _ _ _ _ _ _ _ _ _ _).cons
    · split
      · exact .none
      · split
        · exact .none
        · split
          · exact (IH _ _ _ _ _ _ _ _ _ _ _ _).cons
          · split
            · exact (fini_suf).cons
            · exact .none
  | call c' hd g l k =>
    cases hd with
    | some => exact .none
    | none =>
      unfold simStep
      dsimp only
      split
      · exact .none
      · split
        · split
          · exact .none
          · split
            · exact .none
            · exact IH _ _ _ _ _ _ _ _ _ _ _ _
        · split
          · exact .none
          · split
            · exact .none
            · exact cutS_suf fun _ _ _ _ _ _ _ _ => IH _ _ _ _ _ _ _ _ _ _ _ _
  | unsupported => exact .none
  | finish => exact .none
  | register => exact .none
  | choose => exact .none
  | os => exact .none
  | newGen => exact .none
  | genState => exact .none
  | resume => exact .none
  | «yield» => exact .none
  | fork => exact .none
  | thread => exact .none
  | await => exact .none
end
theorem sim_suf {V : SV} {fr₀ : Option (List Env)} {ρ : Nat → Addr} {τ : Nat → Tok} {z : Of Fini} : ∀ n hs ks es room κ c t D i j F S, Suf F S (sim V fr₀ ρ τ z n hs ks es room κ c t D i j F S)
  | 0 => fun _ _ _ _ _ _ _ _ _ _ _ _ => .none
  | n + 1 => simStep_suf (sim_suf n)
noncomputable def Agr (i : Nat) (f g : Nat → Nat) : Prop := ∀ k, k < i → f k = g k
theorem Agr.refl {i : Nat} {f : Nat → Nat} : Agr i f f := fun _ _ => rfl
theorem Agr.mono {i j : Nat} {f g : Nat → Nat} (h : Agr j f g) (hij : i ≤ j) : Agr i f g := fun k hk => h k (Nat.lt_of_lt_of_le hk hij)
theorem Agr.trans {i : Nat} {f g k : Nat → Nat} (h : Agr i f g) (h' : Agr i g k) : Agr i f k := fun n hn => (h n hn).trans (h' n hn)
theorem tr_of {i : Nat} {f g : Nat → Nat} (h : Agr i f g) : tr i f = tr i g := by
  funext k
  unfold tr
  cases q : Nat.blt k i with
  | true => exact h k (Nat.le_of_ble_eq_true q)
  | false => rfl
noncomputable def put (i : Nat) (f : Nat → Nat) (l : List Nat) : Nat → Nat := fun k => if k < i then f k else l.getD (k - i) 0
theorem put_agr (i : Nat) (f : Nat → Nat) (l : List Nat) : Agr i (put i f l) f := fun k hk => by unfold put; rw [if_pos hk]
theorem seqOf_len (f : Nat → Nat) : ∀ n i, (seqOf f i n).length = n
  | 0, _ => rfl
  | n + 1, i => by show (seqOf f (i + 1) n).length + 1 = _; rw [seqOf_len f n]
theorem seqOf_get (f : Nat → Nat) : ∀ n i k, k < n → (seqOf f i n)[k]? = some (f (i + k))
  | 0, _, _, h => absurd h (Nat.not_lt_zero _)
  | n + 1, i, 0, _ => by simp [seqOf]
  | n + 1, i, k + 1, h => by
    show (f i :: seqOf f (i + 1) n)[k + 1]? = _
    rw [List.getElem?_cons_succ, seqOf_get f n (i + 1) k (Nat.lt_of_succ_lt_succ h), Nat.add_assoc, Nat.add_comm 1 k]
theorem seqOf_put {i : Nat} {f g : Nat → Nat} {l : List Nat} {n : Nat} (hl : l.length = n) (h : Agr (i + n) g (put i f l)) : seqOf g i n = l := by
  apply List.ext_getElem?
  intro k
  by_cases hk : k < n
  · rw [seqOf_get g n i k hk, h (i + k) (by omega)]
    unfold put
    rw [if_neg (by omega), Nat.add_sub_cancel_left, List.getD_eq_getElem?_getD, List.getElem?_eq_getElem (by omega)]
    rfl
  · rw [List.getElem?_eq_none (by rw [seqOf_len]; omega), List.getElem?_eq_none (by omega)]
theorem caller_code : Nat.beq (PySem.code "claim.caller") 35714603318786955769505017188 = true := by decide +kernel
theorem frames_le (c : Code) : c.frames ≤ 3 := by
  unfold Code.frames
  split <;> first | omega | (split <;> omega)
theorem light_spec {c : Code} (h : light c = true) : c.weight ≤ 6 ∧ c.cUnits ≤ 10 := by
  have hf := frames_le c
  have hc : c.isCaller = false := by
    unfold Code.isCaller
    split
    · unfold light at h
      dsimp only at h
      rw [caller_code] at h
      cases h
    · rfl
  constructor
  · unfold Code.weight
    rw [hc, if_neg Bool.false_ne_true]
    (repeat' split) <;> omega
  · unfold Code.cUnits
    split <;> omega
theorem Fit.under {n : Nat} {A : Around} {c : Code} (h : Fit (n + 1) A) (hw : c.weight ≤ 6) (hu : c.cUnits ≤ 10) : Fit n (A.under c) := by
  obtain ⟨a, b, e⟩ := h
  refine ⟨?_, ?_, e⟩
  · show A.depth + c.weight + 6 * n + 6 < _; omega
  · show A.units + c.cUnits + 10 * n + 10 < _; omega
theorem Fit.le {m n : Nat} {A : Around} (h : Fit n A) (hm : m ≤ n) : Fit m A := ⟨by have := h.depth; omega, by have := h.units; omega, h.handled⟩
noncomputable def aOf (A₀ : Around) : Kt → Around
  | .base => A₀
  | .ret c _ κ => (aOf A₀ κ).under c
noncomputable def RoomOk (A₀ : Around) : Nat → Kt → Prop
  | r, .base => Fit r A₀
  | r, .ret c _ κ => RoomOk A₀ (r + 1) κ ∧ c.weight ≤ 6 ∧ c.cUnits ≤ 10
theorem ownEnvs_eq (c : Code) : ownEnvs c = c.envs := by
  unfold ownEnvs Code.envs
  cases c.isFrame with
  | true => cases c.env? <;> rfl
  | false => rfl
theorem eapp_eq : ∀ l r : List Env, eapp l r = l ++ r
  | [], _ => rfl
  | e :: l, r => by rw [eapp, eapp_eq l r]; rfl
theorem under_frames {A : Around} {c : Code} {l : List Env} (h : A.frames = some l) : (A.under c).frames = some (eapp (ownEnvs c) l) := by
  show pushEnvs c.envs A.frames = _
  rw [pushEnvs_eq, h, eapp_eq, ownEnvs_eq]
  rfl
theorem aOf_frames {A₀ : Around} {l₀ : List Env} (h : A₀.frames = some l₀) : ∀ κ, (aOf A₀ κ).frames = some (envsK l₀ κ)
  | .base => h
  | .ret _ _ κ => under_frames (aOf_frames h κ)
theorem RoomOk.fit {A₀ : Around} : ∀ {κ : Kt} {r : Nat}, RoomOk A₀ r κ → Fit r (aOf A₀ κ)
  | .base, _, h => h
  | .ret _ _ _, _, h => (RoomOk.fit h.1).under h.2.1 h.2.2
section
variable {V : SV} {M : List Addr} {hI h : Heap} {D : Dyn}
theorem look_lt {a : Addr} {o : Obj} (e : V.look a = some o) : a < V.n₁ := by
  unfold SV.look at e
  split at e
  · rename_i q; exact Nat.le_of_ble_eq_true q
  · cases e
theorem Got.start (s : Shows V D h) : Got V (D.map (·.1)) h D h := ⟨s.st, s.big, Nat.le_refl _, fun _ _ _ e => e, s.has, fun p hp => .inl (List.mem_map_of_mem hp), s.ge, s.nd⟩
theorem Got.alloc (G : Got V M hI D h) {o : Obj} (hf : o.isFreed = false) : Got V M hI ((h.objs.size, o) :: D) (h.push o) := by
  refine ⟨fun a o' e => Heap.get?_push_of_some _ (G.st a o' e), G.big, by rw [Heap.size_push]; exact Nat.le_succ_of_le G.size, fun b o' hb e => Heap.get?_push_of_some _ (G.keep b o' hb e), fun p hp => ?_, fun p hp => ?_, fun p hp => ?_, ?_⟩
  · rcases List.mem_cons.mp hp with rfl | hp
    · exact Heap.get?_push_size _ hf
    · exact Heap.get?_push_of_some _ (G.has p hp)
  · rcases List.mem_cons.mp hp with rfl | hp
    · exact .inr G.size
    · exact G.own p hp
  · rcases List.mem_cons.mp hp with rfl | hp
    · exact Nat.le_trans G.big G.size
    · exact G.ge p hp
  · refine List.nodup_cons.mpr ⟨fun hm => ?_, G.nd⟩
    obtain ⟨p, hp, e⟩ := List.mem_map.mp hm
    have := Heap.lt_size (G.has p hp)
    rw [e] at this
    exact Nat.lt_irrefl _ this
theorem Got.update (G : Got V M hI D h) {n : Nat} {b : Addr} {o : Obj} {f : Obj → Obj} (hn : nth D n = some (b, o)) (hf : (f o).isFreed = false) : h.get? b = some o ∧ Got V M hI (setN D n (f o)) (h.update b f) := by
  have hm := nth_mem hn
  have ho : h.get? b = some o := G.has _ hm
  have hs : Heap.SameBut b h (h.update b f) := Heap.SameBut.update ..
  have hmap : (setN D n (f o)).map (·.1) = D.map (·.1) := setN_map
  have back : ∀ p ∈ setN D n (f o), ∃ q ∈ D, q.1 = p.1 := fun p hp => by
    have : p.1 ∈ D.map (·.1) := hmap ▸ List.mem_map_of_mem hp
    obtain ⟨q, hq, e⟩ := List.mem_map.mp this
    exact ⟨q, hq, e⟩
  refine ⟨ho, fun a o' e => ?_, G.big, by rw [hs.1]; exact G.size, fun a o' ha e => ?_, fun p hp => ?_, fun p hp => ?_, fun p hp => ?_, by rw [hmap]; exact G.nd⟩
  · exact (hs.2 a (fun q => by
      have lt := look_lt e
      subst q
      exact Nat.lt_irrefl _ (Nat.lt_of_lt_of_le lt (G.ge _ hm)))).trans (G.st a o' e)
  · refine (hs.2 a fun q => ?_).trans (G.keep a o' ha e)
    subst q
    rcases G.own _ hm with q | q
    · exact ha q
    · exact absurd (Heap.lt_size e) (Nat.not_lt.mpr q)
  · rcases setN_mem hn G.nd p hp with rfl | ⟨hp', ne⟩
    · exact Heap.get?_update_self _ ho hf
    · exact (hs.2 _ ne).trans (G.has p hp')
  · obtain ⟨q, hq, e⟩ := back p hp
    rw [← e]; exact G.own q hq
  · obtain ⟨q, hq, e⟩ := back p hp
    rw [← e]; exact G.ge q hq
theorem Got.shows (G : Got V M hI D h) {L R : Dyn} (hp : D.Perm (L ++ R)) : Shows V L h :=
  ⟨G.st, Nat.le_trans G.big G.size, fun p hl => G.has p (hp.mem_iff.mpr (List.mem_append_left _ hl)), fun p hl => G.ge p (hp.mem_iff.mpr (List.mem_append_left _ hl)),
    by
      have nd : ((L ++ R).map (·.1)).Nodup := (hp.map (·.1)).nodup_iff.mp G.nd
      rw [List.map_append] at nd
      exact (List.nodup_append.mp nd).1⟩
theorem Got.cut (G : Got V M hI D h) {L R L' : Dyn} {h' : Heap} (hp : D.Perm (L ++ R)) (C : Got V (L.map (·.1)) h L' h') : Got V M hI (L' ++ R) h' := by
  have nd : ((L ++ R).map (·.1)).Nodup := (hp.map (·.1)).nodup_iff.mp G.nd
  rw [List.map_append] at nd
  have nd' := List.nodup_append.mp nd
  have inD : ∀ p, p ∈ L ∨ p ∈ R → p ∈ D := fun p q => hp.mem_iff.mpr (List.mem_append.mpr q)
  have awayR : ∀ p ∈ R, p.1 ∉ L.map (·.1) := fun p hr hl => nd'.2.2 p.1 hl p.1 (List.mem_map_of_mem hr) rfl
  have ownL : ∀ a ∈ L.map (·.1), a ∈ M ∨ hI.objs.size ≤ a := fun a ha => by
    obtain ⟨p, hl, rfl⟩ := List.mem_map.mp ha
    exact G.own p (inD p (.inl hl))
  refine ⟨C.st, G.big, Nat.le_trans G.size C.size, fun b o hb e => C.keep b o (fun q => ?_) (G.keep b o hb e), fun p hq => ?_, fun p hq => ?_, fun p hq => ?_, ?_⟩
  · rcases ownL b q with q | q
    · exact hb q
    · exact absurd (Heap.lt_size e) (Nat.not_lt.mpr q)
  · rcases List.mem_append.mp hq with hq | hq
    · exact C.has p hq
    · exact C.keep _ _ (awayR p hq) (G.has p (inD p (.inr hq)))
  · rcases List.mem_append.mp hq with hq | hq
    · rcases C.own p hq with q | q
      · exact ownL _ q
      · exact .inr (Nat.le_trans G.size q)
    · exact G.own p (inD p (.inr hq))
  · rcases List.mem_append.mp hq with hq | hq
    · exact C.ge p hq
    · exact G.ge p (inD p (.inr hq))
  · rw [List.map_append]
    refine List.nodup_append.mpr ⟨C.nd, nd'.2.1, fun a ha b hb e => ?_⟩
    subst e
    obtain ⟨p, hl, rfl⟩ := List.mem_map.mp ha
    obtain ⟨q, hr, e⟩ := List.mem_map.mp hb
    rcases C.own p hl with x | x
    · exact awayR q hr (e ▸ x)
    · have := Heap.lt_size (G.has q (inD q (.inr hr)))
      rw [e] at this
      exact absurd this (Nat.not_lt.mpr x)
theorem Got.picks (G : Got V M hI D h) {L R : Dyn} (hp : D.Perm (L ++ R)) : Got V M hI L h := by
  have s := G.shows hp
  exact ⟨G.st, G.big, G.size, G.keep, s.has, fun p hl => G.own p (hp.mem_iff.mpr (List.mem_append_left _ hl)), s.ge, s.nd⟩
end
end Mine
end
section
open PySem PySem.W PySem.W.X PyProof.Rows
set_option Elab.async false
set_option maxRecDepth 100000
namespace Mine
section
variable (V : SV) (A₀ : Around) (R₀ : Result → Shared → Prop)
noncomputable def endOf : Kt → Result → Shared → Prop
  | .base => R₀
  | .ret c k κ => fun r s => wpOwn (model V.prog V.w) (aOf A₀ κ) c (k r) (postC V.prog V.w (aOf A₀ κ) (endOf κ)) (postE (endOf κ)) s
noncomputable def Means (κ : Kt) (c : Code) (t : Sem Fin) (s : Shared) : Prop := wpOwn (model V.prog V.w) (aOf A₀ κ) c t (postC V.prog V.w (aOf A₀ κ) (endOf V A₀ R₀ κ)) (postE (endOf V A₀ R₀ κ)) s
end
section
variable {V : SV} (O : V.Ok) {A₀ : Around} {R₀ : Result → Shared → Prop} {M : List Addr} {hI : Heap} {g : Array GenState} {d : Drawn} {os : OsState} {z : Of Fini} {fr₀ : Option (List Env)}
noncomputable def Ends (V : SV) (A₀ : Around) (R₀ : Result → Shared → Prop) (M : List Addr) (hI : Heap) (g : Array GenState) (d : Drawn) (os : OsState) (z : Of Fini) : Prop :=
  ∀ ρ τ h' tk', Got V M hI (z ρ τ).picks h' → 0 < tk' → match (z ρ τ).out with
    | .inl r => R₀ r ⟨h', g, d, tk', os⟩
    | .inr c' => c'.quiet = true → codeAny (model V.prog V.w) A₀ c' R₀ ⟨h', g, d, tk', os⟩
noncomputable abbrev Both (x : Option (List Tm × List Tm)) : Prop := ∃ L, x = some (L, L)
noncomputable def Runs' (V : SV) (A₀ : Around) (R₀ : Result → Shared → Prop) (M : List Addr) (hI : Heap) (g : Array GenState) (d : Drawn) (os : OsState) (fr₀ : Option (List Env)) (n : Nat) (z : Of Fini) : Prop :=
  ∀ hs ks es room κ c t D i j F S ρ₀ τ₀ h tk, F.length = S.length → RoomOk A₀ room κ → Got V M hI D h → 0 < tk → (∀ k ∈ ks, ∀ ρ τ, Cut.Ok V (k ρ τ)) →
    (∀ ρ τ, Agr i ρ ρ₀ → Agr j τ τ₀ → Both (sim V fr₀ ρ τ z n hs ks es room κ c t D i j F S)) → Means V A₀ R₀ κ c t ⟨h, g, d, tk, os⟩
theorem fini_eq {ρ : Nat → Addr} {τ : Nat → Tok} {o : Result ⊕ Code} {hs : List Nat} {D : Dyn} {i j : Nat} {F S : List Tm} (hl : F.length = S.length) (H : Both (fini ρ τ z o hs D i j F S)) :
    o = (z (tr i ρ) (tr j τ)).out ∧ ∃ R, D.Perm ((z (tr i ρ) (tr j τ)).picks ++ R) := by
  obtain ⟨L, e⟩ := H
  unfold fini at e
  split at e
  · cases e
  · split at e
    · cases e
    · rename_i hs' Lp R q
      have e := Option.some.inj e
      have e1 := (Prod.mk.inj e).1.trans (Prod.mk.inj e).2.symm
      simp only [List.cons.injEq, Tm.r.injEq, Tm.l.injEq] at e1
      refine ⟨e1.1, R, ?_⟩
      have := pickT_perm q
      rw [e1.2.1] at this
      exact this
variable (hz : Ends V A₀ R₀ M hI g d os z)
include hz
theorem ret_sound {n : Nat} (IH : Runs' V A₀ R₀ M hI g d os fr₀ n z) {r : Result} {hs : List Nat} {ks : List (Of Cut)} {es : List (Of Ent)} {room : Nat} {κ : Kt} {D : Dyn} {i j : Nat} {F S : List Tm} {ρ₀ : Nat → Addr} {τ₀ : Nat → Tok} {h : Heap} {tk : Nat}
    (hl : F.length = S.length) (hr : RoomOk A₀ room κ) (G : Got V M hI D h) (ht : 0 < tk) (hk : ∀ k ∈ ks, ∀ ρ τ, Cut.Ok V (k ρ τ)) (H : ∀ ρ τ, Agr i ρ ρ₀ → Agr j τ τ₀ → Both (retS ρ τ z (sim V fr₀ ρ τ z n) r hs ks es room κ D i j F S)) : endOf V A₀ R₀ κ r ⟨h, g, d, tk, os⟩ := by
  cases κ with
  | base =>
    obtain ⟨e, R, hp⟩ := fini_eq hl (H ρ₀ τ₀ .refl .refl)
    have := hz (tr i ρ₀) (tr j τ₀) h tk (G.picks hp) ht
    rw [← e] at this
    exact this
  | ret c k κ => exact IH hs ks es (room + 1) κ c (k r) D i j F S ρ₀ τ₀ h tk hl hr.1 G ht hk H
omit hz in
theorem cutG_sound {go : (Nat → Addr) → (Nat → Tok) → Result → List Nat → List (Of Cut) → Dyn → Nat → Nat → List Tm → List Tm → Option (List Tm × List Tm)} (hgo : ∀ ρ τ r hs ks D i j F S, Suf F S (go ρ τ r hs ks D i j F S)) {A : Around} {R : Result → Shared → Prop}
    {c : Code} {room : Nat} {hs : List Nat} {ks : List (Of Cut)} {D : Dyn} {i j : Nat} {F S : List Tm} {ρ₀ : Nat → Addr} {τ₀ : Nat → Tok} {h : Heap} {tk : Nat} {k : Cut} (hA : Fit room A) (hfr : ∀ l, k.fr = some l → A.frames = some l)
    (hl : F.length = S.length) (G : Got V M hI D h) (ht : 0 < tk) (hok : Cut.Ok V k) (hk : ∀ k ∈ ks, ∀ ρ τ, Cut.Ok V (k ρ τ))
    (back : ∀ r hs ks D i j F S ρ₁ τ₁ h' tk', F.length = S.length → Got V M hI D h' → 0 < tk' → (∀ k ∈ ks, ∀ ρ τ, Cut.Ok V (k ρ τ)) → (∀ ρ τ, Agr i ρ ρ₁ → Agr j τ τ₁ → Both (go ρ τ r hs ks D i j F S)) → R r ⟨h', g, d, tk', os⟩)
    (H1 : ∀ ρ τ, Agr i ρ ρ₀ → Agr j τ τ₀ → Both (cutG ρ τ (go ρ τ) c room hs ks D i j F S k)) : codeAny (model V.prog V.w) A c R ⟨h, g, d, tk, os⟩ := by
  obtain ⟨fr, code, pre, need, nA, nT, res, post, new, more⟩ := k
  unfold cutG at H1
  dsimp only at H1
  have H2 := H1
  clear H1
  cases hb : Nat.ble need room with
  | false => obtain ⟨L, e⟩ := H2 ρ₀ τ₀ .refl .refl; rw [hb] at e; cases e
  | true =>
    rw [hb] at H2
    cases hs with
    | nil => obtain ⟨L, e⟩ := H2 ρ₀ τ₀ .refl .refl; cases e
    | cons n hs =>
      dsimp only at H2
      cases hp : pickT n hs D with
      | none => rw [hp] at H2; obtain ⟨L, e⟩ := H2 ρ₀ τ₀ .refl .refl; cases e
      | some x =>
        obtain ⟨hs', L, R'⟩ := x
        rw [hp] at H2
        dsimp only at H2
        obtain ⟨X, eX⟩ := H2 ρ₀ τ₀ .refl .refl
        have e1 := (hgo _ _ _ _ _ _ _ _ _ _).eq (by simp [hl]) eX
        simp only [List.cons.injEq, Tm.c.injEq, Tm.l.injEq] at e1
        obtain ⟨rfl, rfl, _⟩ := e1
        have perm := pickT_perm hp
        refine hok A ⟨h, g, d, tk, os⟩ R (hA.le (Nat.le_of_ble_eq_true hb)) hfr (G.shows perm) ht fun r L' h' tk' hP C ht' => ?_
        obtain ⟨as, ts, la, lt, rfl, rfl⟩ := hP
        dsimp only at la lt C ⊢
        have G' := G.cut perm C
        have eM := moreOf_eq R' as ts ⟨fr, c, L, need, nA, nT, res, post, new, more⟩
        have eA : app (zipAO (addrs L) (post as ts)) (app (zipAO as (new as ts)) (moreOf R' as ts more)) = zipAO (addrs L) (post as ts) ++ (zipAO as (new as ts) ++ (R' ++ Cut.extra ⟨fr, c, L, need, nA, nT, res, post, new, more⟩ as ts)) := by rw [app_eq, app_eq]; exact congrArg _ (congrArg _ eM)
        have pA : (zipAO (addrs L) (post as ts) ++ zipAO as (new as ts) ++ Cut.extra ⟨fr, c, L, need, nA, nT, res, post, new, more⟩ as ts ++ R').Perm (app (zipAO (addrs L) (post as ts)) (app (zipAO as (new as ts)) (moreOf R' as ts more)) ++ []) := by
          rw [eA, List.append_nil, List.append_assoc, List.append_assoc]
          exact List.Perm.append_left _ (List.Perm.append_left _ List.perm_append_comm)
        refine back (res as ts) hs' ks (app (zipAO (addrs L) (post as ts)) (app (zipAO as (new as ts)) (moreOf R' as ts more))) (i + nA) (j + nT) (.c c :: .l L :: F) (.c c :: .l L :: S) (put i ρ₀ as) (put j τ₀ ts) h' tk' (by simp [hl]) (G'.picks pA) ht' hk fun ρ τ a b => ?_
        have := H2 ρ τ ((a.mono (Nat.le_add_right ..)).trans (put_agr i ρ₀ as)) ((b.mono (Nat.le_add_right ..)).trans (put_agr j τ₀ ts))
        rw [seqOf_put la a, seqOf_put lt b] at this
        exact this
omit hz in
theorem cut_sound {fk : List Env → List Env} {go : (Nat → Addr) → (Nat → Tok) → Result → List Nat → List (Of Cut) → Dyn → Nat → Nat → List Tm → List Tm → Option (List Tm × List Tm)} (hgo : ∀ ρ τ r hs ks D i j F S, Suf F S (go ρ τ r hs ks D i j F S)) {A : Around} {R : Result → Shared → Prop}
    {c : Code} {room : Nat} {hs : List Nat} {ks : List (Of Cut)} {D : Dyn} {i j : Nat} {F S : List Tm} {ρ₀ : Nat → Addr} {τ₀ : Nat → Tok} {h : Heap} {tk : Nat} (hA : Fit room A) (hfr : ∀ l, fr₀ = some l → A.frames = some (fk l))
    (hl : F.length = S.length) (G : Got V M hI D h) (ht : 0 < tk) (hk : ∀ k ∈ ks, ∀ ρ τ, Cut.Ok V (k ρ τ))
    (back : ∀ r hs ks D i j F S ρ₁ τ₁ h' tk', F.length = S.length → Got V M hI D h' → 0 < tk' → (∀ k ∈ ks, ∀ ρ τ, Cut.Ok V (k ρ τ)) → (∀ ρ τ, Agr i ρ ρ₁ → Agr j τ τ₁ → Both (go ρ τ r hs ks D i j F S)) → R r ⟨h', g, d, tk', os⟩)
    (H : ∀ ρ τ, Agr i ρ ρ₀ → Agr j τ τ₀ → Both (cutS fr₀ ρ τ fk (go ρ τ) c room hs ks D i j F S)) : codeAny (model V.prog V.w) A c R ⟨h, g, d, tk, os⟩ := by
  cases ks with
  | nil => obtain ⟨L, e⟩ := H ρ₀ τ₀ .refl .refl; cases e
  | cons kf ks =>
    have hok := hk kf (.head _) (tr i ρ₀) (tr j τ₀)
    have H1 : ∀ ρ τ, Agr i ρ ρ₀ → Agr j τ τ₀ → Both (cutK fr₀ ρ τ fk (go ρ τ) c room hs ks D i j F S (kf (tr i ρ₀) (tr j τ₀))) := fun ρ τ a b => by
      have := H ρ τ a b
      unfold cutS at this
      dsimp only at this
      rw [tr_of a, tr_of b] at this
      exact this
    generalize kf (tr i ρ₀) (tr j τ₀) = k at H1 hok
    unfold cutK at H1
    have hk' : ∀ k ∈ ks, ∀ ρ τ, Cut.Ok V (k ρ τ) := fun k h => hk k (.tail _ h)
    cases hf : k.fr with
    | none =>
      rw [hf] at H1
      exact cutG_sound hgo hA (fun l e => by rw [hf] at e; cases e) hl G ht hok hk' back H1
    | some l =>
      rw [hf] at H1
      cases e0 : fr₀ with
      | none => rw [e0] at H1; obtain ⟨L, e⟩ := H1 ρ₀ τ₀ .refl .refl; cases e
      | some l₀ =>
        rw [e0] at H1
        dsimp only at H1
        obtain ⟨X, eX⟩ := H1 ρ₀ τ₀ .refl .refl
        have e1 := (cutG_suf (hgo ρ₀ τ₀)).eq (by simp [hl]) eX
        simp only [List.cons.injEq, Tm.e.injEq] at e1
        have fr : A.frames = some l := by rw [hfr l₀ e0, e1.1]
        exact cutG_sound hgo hA (fun l' e => by rw [hf] at e; cases e; exact fr) (by simp [hl]) G ht hok hk' back H1
end
end Mine
end
section
open PySem PySem.W PySem.W.X PyProof.Rows
set_option Elab.async false
set_option maxRecDepth 100000
namespace Mine
section
variable {V : SV} (O : V.Ok) {A₀ : Around} {R₀ : Result → Shared → Prop} {M : List Addr} {hI : Heap} {g : Array GenState} {d : Drawn} {os : OsState} {z : Of Fini} {fr₀ : Option (List Env)} (hfr₀ : ∀ l, fr₀ = some l → A₀.frames = some l)
  (hz : Ends V A₀ R₀ M hI g d os z)
include O hz
omit hfr₀ in
theorem load_sound {n : Nat} (IH : Runs' V A₀ R₀ M hI g d os fr₀ n z) {a : Addr} {k : Obj → Sem Fin} {hs : List Nat} {ks : List (Of Cut)} {es : List (Of Ent)} {room : Nat} {κ : Kt} {c : Code} {D : Dyn} {i j : Nat} {F S : List Tm} {ρ₀ : Nat → Addr} {τ₀ : Nat → Tok} {h : Heap} {tk : Nat}
    (hl : F.length = S.length) (hr : RoomOk A₀ room κ) (G : Got V M hI D h) (ht : 0 < tk) (hk : ∀ k ∈ ks, ∀ ρ τ, Cut.Ok V (k ρ τ))
    (H : ∀ ρ τ, Agr i ρ ρ₀ → Agr j τ τ₀ → Both (loadS V (fun o hs F S => sim V fr₀ ρ τ z n hs ks es room κ c (k o) D i j F S) a hs D F S)) :
    ∃ o, h.get? a = some o ∧ Means V A₀ R₀ κ c (k o) ⟨h, g, d, tk, os⟩ := by
  cases hs with
  | nil => obtain ⟨L, e⟩ := H ρ₀ τ₀ .refl .refl; cases e
  | cons x hs =>
    cases x with
    | zero =>
      cases e : V.look a with
      | none => obtain ⟨L, q⟩ := H ρ₀ τ₀ .refl .refl; unfold loadS at q; dsimp only at q; rw [e] at q; cases q
      | some o =>
        refine ⟨o, G.st a o e, IH hs ks es room κ c (k o) D i j F S ρ₀ τ₀ h tk hl hr G ht hk fun ρ τ p q => ?_⟩
        have := H ρ τ p q
        unfold loadS at this
        dsimp only at this
        rw [e] at this
        exact this
    | succ x =>
      cases e : nth D x with
      | none => obtain ⟨L, q⟩ := H ρ₀ τ₀ .refl .refl; unfold loadS at q; dsimp only at q; rw [e] at q; cases q
      | some p =>
        obtain ⟨b, o⟩ := p
        have H2 : ∀ ρ τ, Agr i ρ ρ₀ → Agr j τ τ₀ → Both (sim V fr₀ ρ τ z n hs ks es room κ c (k o) D i j (.a a :: F) (.a b :: S)) := fun ρ τ p q => by
          have := H ρ τ p q
          unfold loadS at this
          dsimp only at this
          rw [e] at this
          exact this
        obtain ⟨X, eX⟩ := H2 ρ₀ τ₀ .refl .refl
        have e1 := (sim_suf n _ _ _ _ _ _ _ _ _ _ _ _).eq (by simp [hl]) eX
        simp only [List.cons.injEq, Tm.a.injEq] at e1
        obtain ⟨rfl, _⟩ := e1
        exact ⟨o, G.has _ (nth_mem e), IH hs ks es room κ c (k o) D i j _ _ ρ₀ τ₀ h tk (by simp [hl]) hr G ht hk H2⟩
include hfr₀ in
theorem sim_sound : ∀ n, Runs' V A₀ R₀ M hI g d os fr₀ n z
  | 0 => fun _ _ _ _ _ _ _ _ _ _ _ _ ρ₀ τ₀ _ _ _ _ _ _ _ H => by obtain ⟨L, e⟩ := H ρ₀ τ₀ .refl .refl; cases e
  | n + 1 => by
    have IH := sim_sound n
    intro hs ks es room κ c t D i j F S ρ₀ τ₀ h tk hl hr G ht hk H
    have H : ∀ ρ τ, Agr i ρ ρ₀ → Agr j τ τ₀ → Both (simStep V fr₀ ρ τ z (sim V fr₀ ρ τ z n) hs ks es room κ c t D i j F S) := H
    have H₀ := H ρ₀ τ₀ .refl .refl
    cases t with
    | pure fin =>
      cases fin with
      | done f => exact y_pure _ _ _ _ _ _ _ _ _ (y_done _ _ _ _ _ _ (ret_sound hz IH hl hr G ht hk H))
      | again c' =>
        cases q : V.quiet c' with
        | false => simp only [simStep, q] at H₀; obtain ⟨L, e⟩ := H₀; cases e
        | true =>
          have q' : c'.quiet = true := by rw [O.quiet]; exact q
          cases hs with
          | nil => simp only [simStep, q] at H₀; obtain ⟨L, e⟩ := H₀; cases e
          | cons x hs =>
            match x, H with
            | 0, H =>
              simp only [simStep, q] at H
              have z := IH hs ks es room κ c' (V.den c') D i j F S ρ₀ τ₀ h tk hl hr G ht hk H
              rw [← O.den] at z
              exact y_pure _ _ _ _ _ _ _ _ _ (y_again _ _ _ _ _ _ q' (y_code _ _ _ _ _ _ z))
            | 1, H =>
              simp only [simStep, q] at H
              refine y_pure _ _ _ _ _ _ _ _ _ (y_again _ _ _ _ _ _ q' ?_)
              exact cut_sound (go := fun ρ τ r hs ks D i j F S => retS ρ τ z (sim V fr₀ ρ τ z n) r hs ks es room κ D i j F S) (fun ρ τ _ _ _ _ _ _ _ _ => retS_suf (sim_suf n)) hr.fit (fun l e => aOf_frames (hfr₀ l e) κ) hl G ht hk (fun r hs ks D i j F S ρ₁ τ₁ h' tk' hl G ht hk H => ret_sound hz IH hl hr G ht hk H) H
            | x + 2, H =>
              simp only [simStep, q] at H
              cases κ with
              | ret c k κ => obtain ⟨L, e⟩ := H ρ₀ τ₀ .refl .refl; cases e
              | base =>
                obtain ⟨e, R, hp⟩ := fini_eq hl (H ρ₀ τ₀ .refl .refl)
                have y := hz (tr i ρ₀) (tr j τ₀) h tk (G.picks hp) ht
                rw [← e] at y
                exact y_pure _ _ _ _ _ _ _ _ _ (y_again _ _ _ _ _ _ q' (y q'))
    | raise e => exact y_raise _ _ _ _ _ _ _ _ _ (y_err _ _ _ (ret_sound hz IH hl hr G ht hk H))
    | rule tag k => exact y_skim _ _ _ _ _ _ _ _ _ 1 (IH hs ks es room κ c (k ()) D i j F S ρ₀ τ₀ h tk hl hr G ht hk H)
    | «at» p k => exact y_skim _ _ _ _ _ _ _ _ _ 1 (IH hs ks es room κ c (k ()) D i j F S ρ₀ τ₀ h tk hl hr G ht hk H)
    | point l k => exact y_skim _ _ _ _ _ _ _ _ _ 1 (IH hs ks es room κ c (k ()) D i j F S ρ₀ τ₀ h tk hl hr G ht hk H)
    | ask k => exact y_skim _ _ _ _ _ _ _ _ _ 1 (IH hs ks es room κ c (k ⟨V.prog, V.w.params⟩) D i j F S ρ₀ τ₀ h tk hl hr G ht hk H)
    | load a q k =>
      obtain ⟨o, ho, y⟩ := load_sound O hz IH hl hr G ht hk H
      exact y_load _ _ _ _ _ _ _ _ _ _ _ _ _ _ _ _ ho y
    | loadIfAlive a k =>
      obtain ⟨o, ho, y⟩ := load_sound O hz IH (k := fun o => k (some o)) hl hr G ht hk H
      exact y_alive _ _ _ _ _ _ _ _ _ _ _ _ _ _ _ ho y
    | alloc o k =>
      cases q : o.isFreed with
      | true => simp only [simStep, q] at H₀; obtain ⟨L, e⟩ := H₀; cases e
      | false =>
        have y := IH hs ks es room κ c (k h.objs.size) ((h.objs.size, o) :: D) (i + 1) j F S (put i ρ₀ [h.objs.size]) τ₀ (h.push o) tk hl hr (G.alloc q) ht hk fun ρ τ a b => by
          have e := H ρ τ ((a.mono (Nat.le_succ _)).trans (put_agr _ _ _)) b
          simp only [simStep, q] at e
          have e1 : ρ i = h.objs.size := by
            have := a i (Nat.lt_succ_self _)
            rw [this]
            unfold put
            rw [if_neg (Nat.lt_irrefl _), Nat.sub_self]
            rfl
          rw [e1] at e
          exact e
        exact wpOwn_bind (m := PySem.alloc o) (f := k) (wpOwn_of_wpAny (wpAny_alloc y))
    | update a p f k =>
      cases hs with
      | nil => obtain ⟨L, e⟩ := H₀; cases e
      | cons x hs =>
        cases e : nth D x with
        | none => simp only [simStep, e] at H₀; obtain ⟨L, e⟩ := H₀; cases e
        | some y =>
          obtain ⟨b, o⟩ := y
          cases q : (f o).isFreed with
          | true => simp only [simStep, e, q] at H₀; obtain ⟨L, e⟩ := H₀; cases e
          | false =>
            simp only [simStep, e, q] at H H₀
            obtain ⟨X, eX⟩ := H₀
            have e1 := (sim_suf n _ _ _ _ _ _ _ _ _ _ _ _).eq (by simp [hl]) eX
            simp only [List.cons.injEq, Tm.a.injEq] at e1
            obtain ⟨rfl, _⟩ := e1
            obtain ⟨ho, G'⟩ := G.update e q
            exact wpOwn_bind (m := updatePart a p f) (f := k) (wpOwn_of_wpAny (wpAny_updatePart ho (IH hs ks es room κ c (k ()) _ i j _ _ ρ₀ τ₀ _ tk (by simp [hl]) hr G' ht hk H)))
    | fresh k =>
      cases hs with
      | nil => obtain ⟨L, e⟩ := H₀; cases e
      | cons x hs =>
        cases hx : Nat.beq x 1000 with
        | false =>
          have y := IH (x :: hs) ks es room κ c (k tk) D i (j + 1) F S ρ₀ (put j τ₀ [tk]) h (tk + 1) hl hr G (Nat.succ_pos _) hk fun ρ τ a b => by
            have e := H ρ τ a ((b.mono (Nat.le_succ _)).trans (put_agr _ _ _))
            simp only [simStep, hx] at e
            have e1 : τ j = tk := by
              have := b j (Nat.lt_succ_self _)
              rw [this]
              unfold put
              rw [if_neg (Nat.lt_irrefl _), Nat.sub_self]
              rfl
            rw [e1] at e
            exact e
          exact y_fresh _ _ _ _ _ _ _ _ _ _ _ _ _ y
        | true =>
          have e1 : ∀ τ, Agr (j + 1) τ (put j τ₀ [tk - 1]) → τ j + 1 = tk := fun τ b => by
            have := b j (Nat.lt_succ_self _)
            rw [this]
            unfold put
            rw [if_neg (Nat.lt_irrefl _), Nat.sub_self]
            show tk - 1 + 1 = tk
            omega
          have H3 : ∀ ρ τ, Agr i ρ ρ₀ → Agr (j + 1) τ (put j τ₀ [tk - 1]) → Both (match skim ⟨V.prog, V.w.params⟩ 8 (k tk) with
              | .fresh k' => sim V fr₀ ρ τ z n hs ks es room κ c (k' (tk + 1)) D i (j + 1) F S
              | _ => none) := fun ρ τ a b => by
            have e := H ρ τ a ((b.mono (Nat.le_succ _)).trans (put_agr _ _ _))
            simp only [simStep, hx] at e
            have e2 : τ j + 2 = tk + 1 := by have := e1 τ b; omega
            rw [e1 τ b, e2] at e
            exact e
          refine y_fresh _ _ _ _ _ _ _ _ _ _ _ _ _ (y_skim _ _ _ _ _ _ _ _ _ 8 ?_)
          generalize skim ⟨V.prog, V.w.params⟩ 8 (k tk) = t' at H3
          cases t' with
          | fresh k' => exact y_fresh _ _ _ _ _ _ _ _ _ _ _ _ _ (IH hs ks es room κ c (k' (tk + 1)) D i (j + 1) F S ρ₀ (put j τ₀ [tk - 1]) h (tk + 2) hl hr G (Nat.succ_pos _) hk H3)
          | _ => obtain ⟨L, e⟩ := H3 ρ₀ (put j τ₀ [tk - 1]) .refl .refl; cases e
    | handled own k =>
      cases own with
      | true => obtain ⟨L, e⟩ := H₀; cases e
      | false =>
        have y := IH hs ks es room κ c (k none) D i j F S ρ₀ τ₀ h tk hl hr G ht hk H
        refine y_handled _ _ _ _ _ _ _ _ _ ?_
        rw [hr.fit.handled]
        exact y
    | stack k =>
      cases hfm : notCall c with
      | true =>
        cases hw : light c with
        | false => simp only [simStep, hfm, hw] at H₀; obtain ⟨L, e⟩ := H₀; cases e
        | true =>
          obtain ⟨w1, w2⟩ := light_spec hw
          simp only [simStep, hfm, hw] at H
          obtain ⟨X, eX⟩ := H ρ₀ τ₀ .refl .refl
          have e1 := (sim_suf n _ _ _ _ _ _ _ _ _ _ _ _).eq (by simp [hl]) eX
          simp only [List.cons.injEq, Tm.t.injEq] at e1
          have y := IH hs ks es room κ c (k []) D i j _ _ ρ₀ τ₀ h tk (by simp [hl]) hr G ht hk H
          have fit := hr.fit
          have uni : ((aOf A₀ κ).under c).units < cLine := by
            show (aOf A₀ κ).units + c.cUnits < _
            have := fit.units
            omega
          have e2 : Sem.stack k = Sem.bind (cRoom "comparison") fun _ => k [] := e1.1.trans (congrFun O.room (k [])).symm
          rw [e2]
          exact wpOwn_bind (m := cRoom "comparison") (f := fun _ => k []) (wpOwn_of_wpAny (wpAny_cRoom uni y))
      | false =>
        cases es with
        | nil => simp only [simStep, hfm] at H₀; obtain ⟨L, e⟩ := H₀; cases e
        | cons ef es =>
          cases hw : light c with
          | false => simp only [simStep, hfm, hw] at H₀; obtain ⟨L, e⟩ := H₀; cases e
          | true =>
            obtain ⟨w1, w2⟩ := light_spec hw
            have hstep : ∀ body env, Sem.stack k = V.entB (.func body env) → codeAny (model V.prog V.w) (aOf A₀ κ) (.func body env) (endOf V A₀ R₀ κ) ⟨h, g, d, tk, os⟩ → Means V A₀ R₀ κ c (.stack k) ⟨h, g, d, tk, os⟩ := fun body env e1 y => by
              rw [e1, ← O.entB]
              have fit := hr.fit
              have dep : ((aOf A₀ κ).under c).depth < recursionLimit := by
                show (aOf A₀ κ).depth + c.weight < _
                have := fit.depth
                omega
              have step : wpAny (model V.prog V.w) ((aOf A₀ κ).under c) (enterFrame 0) (fun _ s' => Means V A₀ R₀ κ c (Sem.pure (Fin.again (.func body env))) s') (postE (endOf V A₀ R₀ κ)) ⟨h, g, d, tk, os⟩ :=
                wpAny_enterFrame (O.nolim h G.st) dep (y_pure _ _ _ _ _ _ _ _ _ (y_again _ _ _ _ _ _ (by rfl) y))
              exact wpOwn_bind (m := enterFrame 0) (f := fun _ => Sem.pure (Fin.again (.func body env))) (wpOwn_of_wpAny step)
            cases hst : (ef (tr i ρ₀) (tr j τ₀)).stop with
            | false =>
              have H2 : ∀ ρ τ, Agr i ρ ρ₀ → Agr j τ τ₀ → Both (sim V fr₀ ρ τ z n hs ks es room κ (.func (ef (tr i ρ₀) (tr j τ₀)).body (ef (tr i ρ₀) (tr j τ₀)).env) (V.den (.func (ef (tr i ρ₀) (tr j τ₀)).body (ef (tr i ρ₀) (tr j τ₀)).env)) D i j
                  (.t (.stack k) :: F) (.t (V.entB (.func (ef (tr i ρ₀) (tr j τ₀)).body (ef (tr i ρ₀) (tr j τ₀)).env)) :: S)) := fun ρ τ a b => by
                have e := H ρ τ a b
                simp only [simStep, hfm, hw] at e
                rw [tr_of a, tr_of b, hst] at e
                exact e
              generalize ef (tr i ρ₀) (tr j τ₀) = en at H2
              obtain ⟨body, env, stop⟩ := en
              dsimp only at H2
              obtain ⟨X, eX⟩ := H2 ρ₀ τ₀ .refl .refl
              have e1 := (sim_suf n _ _ _ _ _ _ _ _ _ _ _ _).eq (by simp [hl]) eX
              simp only [List.cons.injEq, Tm.t.injEq] at e1
              have y := IH hs ks es room κ (.func body env) (V.den (.func body env)) D i j _ _ ρ₀ τ₀ h tk (by simp [hl]) hr G ht hk H2
              rw [← O.den] at y
              exact hstep body env e1.1 (y_code _ _ _ _ _ _ y)
            | true =>
              cases κ with
              | ret c' k' κ' =>
                have e := H₀
                simp only [simStep, hfm, hw] at e
                rw [hst] at e
                obtain ⟨L, e⟩ := e
                cases e
              | base =>
                have e := H₀
                simp only [simStep, hfm, hw] at e
                rw [hst] at e
                generalize ef (tr i ρ₀) (tr j τ₀) = en at e
                obtain ⟨body, env, stop⟩ := en
                dsimp only at e
                obtain ⟨e2, R, hp⟩ := fini_eq (by simp [hl]) e
                obtain ⟨X, eX⟩ := e
                have e1 := (fini_suf).eq (by simp [hl]) eX
                simp only [List.cons.injEq, Tm.t.injEq] at e1
                have y := hz (tr i ρ₀) (tr j τ₀) h tk (G.picks hp) ht
                rw [← e2] at y
                exact hstep body env e1.1 (y (by rfl))
    | call c' hd gd l k =>
      cases hd with
      | some => obtain ⟨L, e⟩ := H₀; cases e
      | none =>
        cases hs with
        | nil => obtain ⟨L, e⟩ := H₀; cases e
        | cons x hs =>
          cases hw : light c with
          | false => cases x <;> (simp only [simStep, hw] at H₀; obtain ⟨L, e⟩ := H₀; cases e)
          | true =>
            cases room with
            | zero => cases x <;> (simp only [simStep, hw] at H₀; obtain ⟨L, e⟩ := H₀; cases e)
            | succ room =>
              obtain ⟨w1, w2⟩ := light_spec hw
              cases x with
              | zero =>
                simp only [simStep, hw] at H
                have y := IH hs ks es room (.ret c k κ) c' (V.den c') D i j F S ρ₀ τ₀ h tk hl ⟨hr, w1, w2⟩ G ht hk H
                rw [← O.den] at y
                exact y_call _ _ _ _ _ _ _ _ _ _ _ _ _ (by intro h; cases h) (y_code _ _ _ _ _ _ y)
              | succ x =>
                simp only [simStep, hw] at H
                refine y_call _ _ _ _ _ _ _ _ _ _ _ _ _ (by intro h; cases h) ?_
                exact cut_sound (go := fun ρ τ r hs ks D i j F S => sim V fr₀ ρ τ z n hs ks es (room + 1) κ c (k r) D i j F S) (fun ρ τ _ _ _ _ _ _ _ _ => sim_suf n _ _ _ _ _ _ _ _ _ _ _ _) (hr.fit.under w1 w2) (fun l e => under_frames (aOf_frames (hfr₀ l e) κ)) hl G ht hk
                  (fun r hs ks D i j F S ρ₁ τ₁ h' tk' hl G ht hk H => IH hs ks es (room + 1) κ c (k r) D i j F S ρ₁ τ₁ h' tk' hl hr G ht hk H) H
    | unsupported => obtain ⟨L, e⟩ := H₀; cases e
    | finish => obtain ⟨L, e⟩ := H₀; cases e
    | register => obtain ⟨L, e⟩ := H₀; cases e
    | choose => obtain ⟨L, e⟩ := H₀; cases e
    | os => obtain ⟨L, e⟩ := H₀; cases e
    | newGen => obtain ⟨L, e⟩ := H₀; cases e
    | genState => obtain ⟨L, e⟩ := H₀; cases e
    | resume => obtain ⟨L, e⟩ := H₀; cases e
    | «yield» => obtain ⟨L, e⟩ := H₀; cases e
    | fork => obtain ⟨L, e⟩ := H₀; cases e
    | thread => obtain ⟨L, e⟩ := H₀; cases e
    | await => obtain ⟨L, e⟩ := H₀; cases e
end
end Mine
end
section
open PySem PySem.W PySem.W.X PyProof.Rows
set_option Elab.async false
set_option maxRecDepth 100000
set_option linter.unusedVariables false
namespace Mine
noncomputable abbrev pw : Program := PySem.Challenge.pw_rt0112_01
noncomputable def stAt : List Stmt → Nat → Stmt
  | [], _ => .Pass ⟨0, 0, 0, 0⟩
  | s :: r, n => match n with | 0 => s | n + 1 => stAt r n
noncomputable def fnP : Stmt → Arguments
  | .FunctionDef _ a .. => a
  | _ => ⟨[], [], none, [], [], none, []⟩
noncomputable def fnB : Stmt → List Stmt
  | .FunctionDef _ _ b .. => b
  | _ => []
noncomputable def fnS : Stmt → Scope
  | .FunctionDef (scope := s) .. => s
  | _ => ⟨.module, [], false, false, []⟩
noncomputable def clsB : Stmt → List Stmt
  | .ClassDef _ _ _ b .. => b
  | _ => []
noncomputable def en (P : Params) (x : Str) (t : Tok) (v : Value) : DictEntry := ⟨PyData.keyHash P x, .str x t, v⟩
noncomputable def o0 (P : Params) : Obj := ⟨.type "dict", none, .dict #[en P ⟨#[95, 95, 110, 97, 109, 101, 95, 95]⟩ 1 (.str ⟨#[98, 117, 105, 108, 116, 105, 110, 115]⟩ 160),
    en P ⟨#[95, 95, 100, 111, 99, 95, 95]⟩ 2 (.builtin "builtins.__doc__:str#opaque"),
    en P ⟨#[95, 95, 112, 97, 99, 107, 97, 103, 101, 95, 95]⟩ 3 (.builtin "builtins.__package__:str#opaque"),
    en P ⟨#[95, 95, 108, 111, 97, 100, 101, 114, 95, 95]⟩ 4 (.builtin "builtins.__loader__:shared#opaque"),
    en P ⟨#[95, 95, 115, 112, 101, 99, 95, 95]⟩ 5 (.builtin "builtins.__spec__#opaque"),
    en P ⟨#[95, 95, 98, 117, 105, 108, 100, 95, 99, 108, 97, 115, 115, 95, 95]⟩ 6 (.builtin "__build_class__"),
    en P ⟨#[95, 95, 105, 109, 112, 111, 114, 116, 95, 95]⟩ 7 (.builtin "__import__"),
    en P ⟨#[97, 98, 115]⟩ 8 (.builtin "abs"),
    en P ⟨#[97, 108, 108]⟩ 9 (.builtin "all"),
    en P ⟨#[97, 110, 121]⟩ 10 (.builtin "any"),
    en P ⟨#[97, 115, 99, 105, 105]⟩ 11 (.builtin "ascii"),
    en P ⟨#[98, 105, 110]⟩ 12 (.builtin "bin"),
    en P ⟨#[98, 114, 101, 97, 107, 112, 111, 105, 110, 116]⟩ 13 (.builtin "breakpoint"),
    en P ⟨#[99, 97, 108, 108, 97, 98, 108, 101]⟩ 14 (.builtin "callable"),
    en P ⟨#[99, 104, 114]⟩ 15 (.builtin "chr"),
    en P ⟨#[99, 111, 109, 112, 105, 108, 101]⟩ 16 (.builtin "compile"),
    en P ⟨#[100, 101, 108, 97, 116, 116, 114]⟩ 17 (.builtin "delattr"),
    en P ⟨#[100, 105, 114]⟩ 18 (.builtin "dir"),
    en P ⟨#[100, 105, 118, 109, 111, 100]⟩ 19 (.builtin "divmod"),
    en P ⟨#[101, 118, 97, 108]⟩ 20 (.builtin "eval"),
    en P ⟨#[101, 120, 101, 99]⟩ 21 (.builtin "exec"),
    en P ⟨#[102, 111, 114, 109, 97, 116]⟩ 22 (.builtin "format"),
    en P ⟨#[103, 101, 116, 97, 116, 116, 114]⟩ 23 (.builtin "getattr"),
    en P ⟨#[103, 108, 111, 98, 97, 108, 115]⟩ 24 (.builtin "globals"),
    en P ⟨#[104, 97, 115, 97, 116, 116, 114]⟩ 25 (.builtin "hasattr"),
    en P ⟨#[104, 97, 115, 104]⟩ 26 (.builtin "hash"),
    en P ⟨#[104, 101, 120]⟩ 27 (.builtin "hex"),
    en P ⟨#[105, 100]⟩ 28 (.builtin "id"),
    en P ⟨#[105, 110, 112, 117, 116]⟩ 29 (.builtin "input"),
    en P ⟨#[105, 115, 105, 110, 115, 116, 97, 110, 99, 101]⟩ 30 (.builtin "isinstance"),
    en P ⟨#[105, 115, 115, 117, 98, 99, 108, 97, 115, 115]⟩ 31 (.builtin "issubclass"),
    en P ⟨#[105, 116, 101, 114]⟩ 32 (.builtin "iter"),
    en P ⟨#[97, 105, 116, 101, 114]⟩ 33 (.builtin "aiter"),
    en P ⟨#[108, 101, 110]⟩ 34 (.builtin "len"),
    en P ⟨#[108, 111, 99, 97, 108, 115]⟩ 35 (.builtin "locals"),
    en P ⟨#[109, 97, 120]⟩ 36 (.builtin "max"),
    en P ⟨#[109, 105, 110]⟩ 37 (.builtin "min"),
    en P ⟨#[110, 101, 120, 116]⟩ 38 (.builtin "next"),
    en P ⟨#[97, 110, 101, 120, 116]⟩ 39 (.builtin "anext"),
    en P ⟨#[111, 99, 116]⟩ 40 (.builtin "oct"),
    en P ⟨#[111, 114, 100]⟩ 41 (.builtin "ord"),
    en P ⟨#[112, 111, 119]⟩ 42 (.builtin "pow"),
    en P ⟨#[112, 114, 105, 110, 116]⟩ 43 (.builtin "print"),
    en P ⟨#[114, 101, 112, 114]⟩ 44 (.builtin "repr"),
    en P ⟨#[114, 111, 117, 110, 100]⟩ 45 (.builtin "round"),
    en P ⟨#[115, 101, 116, 97, 116, 116, 114]⟩ 46 (.builtin "setattr"),
    en P ⟨#[115, 111, 114, 116, 101, 100]⟩ 47 (.builtin "sorted"),
    en P ⟨#[115, 117, 109]⟩ 48 (.builtin "sum"),
    en P ⟨#[118, 97, 114, 115]⟩ 49 (.builtin "vars"),
    en P ⟨#[78, 111, 110, 101]⟩ 50 (.none),
    en P ⟨#[69, 108, 108, 105, 112, 115, 105, 115]⟩ 51 (.ellipsis),
    en P ⟨#[78, 111, 116, 73, 109, 112, 108, 101, 109, 101, 110, 116, 101, 100]⟩ 52 (.notImplemented),
    en P ⟨#[70, 97, 108, 115, 101]⟩ 53 (.bool false),
    en P ⟨#[84, 114, 117, 101]⟩ 54 (.bool true),
    en P ⟨#[98, 111, 111, 108]⟩ 55 (.type "bool"),
    en P ⟨#[109, 101, 109, 111, 114, 121, 118, 105, 101, 119]⟩ 56 (.type "memoryview"),
    en P ⟨#[98, 121, 116, 101, 97, 114, 114, 97, 121]⟩ 57 (.type "bytearray"),
    en P ⟨#[98, 121, 116, 101, 115]⟩ 58 (.type "bytes"),
    en P ⟨#[99, 108, 97, 115, 115, 109, 101, 116, 104, 111, 100]⟩ 59 (.type "classmethod"),
    en P ⟨#[99, 111, 109, 112, 108, 101, 120]⟩ 60 (.type "complex"),
    en P ⟨#[100, 105, 99, 116]⟩ 61 (.type "dict"),
    en P ⟨#[101, 110, 117, 109, 101, 114, 97, 116, 101]⟩ 62 (.type "enumerate"),
    en P ⟨#[102, 105, 108, 116, 101, 114]⟩ 63 (.type "filter"),
    en P ⟨#[102, 108, 111, 97, 116]⟩ 64 (.type "float"),
    en P ⟨#[102, 114, 111, 122, 101, 110, 115, 101, 116]⟩ 65 (.type "frozenset"),
    en P ⟨#[112, 114, 111, 112, 101, 114, 116, 121]⟩ 66 (.type "property"),
    en P ⟨#[105, 110, 116]⟩ 67 (.type "int"),
    en P ⟨#[108, 105, 115, 116]⟩ 68 (.type "list"),
    en P ⟨#[109, 97, 112]⟩ 69 (.type "map"),
    en P ⟨#[111, 98, 106, 101, 99, 116]⟩ 70 (.type "object"),
    en P ⟨#[114, 97, 110, 103, 101]⟩ 71 (.type "range"),
    en P ⟨#[114, 101, 118, 101, 114, 115, 101, 100]⟩ 72 (.type "reversed"),
    en P ⟨#[115, 101, 116]⟩ 73 (.type "set"),
    en P ⟨#[115, 108, 105, 99, 101]⟩ 74 (.type "slice"),
    en P ⟨#[115, 116, 97, 116, 105, 99, 109, 101, 116, 104, 111, 100]⟩ 75 (.type "staticmethod"),
    en P ⟨#[115, 116, 114]⟩ 76 (.type "str"),
    en P ⟨#[115, 117, 112, 101, 114]⟩ 77 (.type "super"),
    en P ⟨#[116, 117, 112, 108, 101]⟩ 78 (.type "tuple"),
    en P ⟨#[116, 121, 112, 101]⟩ 79 (.type "type"),
    en P ⟨#[122, 105, 112]⟩ 80 (.type "zip"),
    en P ⟨#[95, 95, 100, 101, 98, 117, 103, 95, 95]⟩ 81 (.bool true),
    en P ⟨#[66, 97, 115, 101, 69, 120, 99, 101, 112, 116, 105, 111, 110]⟩ 82 (.type "BaseException"),
    en P ⟨#[66, 97, 115, 101, 69, 120, 99, 101, 112, 116, 105, 111, 110, 71, 114, 111, 117, 112]⟩ 83 (.type "BaseExceptionGroup"),
    en P ⟨#[69, 120, 99, 101, 112, 116, 105, 111, 110]⟩ 84 (.type "Exception"),
    en P ⟨#[71, 101, 110, 101, 114, 97, 116, 111, 114, 69, 120, 105, 116]⟩ 85 (.type "GeneratorExit"),
    en P ⟨#[75, 101, 121, 98, 111, 97, 114, 100, 73, 110, 116, 101, 114, 114, 117, 112, 116]⟩ 86 (.type "KeyboardInterrupt"),
    en P ⟨#[83, 121, 115, 116, 101, 109, 69, 120, 105, 116]⟩ 87 (.type "SystemExit"),
    en P ⟨#[65, 114, 105, 116, 104, 109, 101, 116, 105, 99, 69, 114, 114, 111, 114]⟩ 88 (.type "ArithmeticError"),
    en P ⟨#[65, 115, 115, 101, 114, 116, 105, 111, 110, 69, 114, 114, 111, 114]⟩ 89 (.type "AssertionError"),
    en P ⟨#[65, 116, 116, 114, 105, 98, 117, 116, 101, 69, 114, 114, 111, 114]⟩ 90 (.type "AttributeError"),
    en P ⟨#[66, 117, 102, 102, 101, 114, 69, 114, 114, 111, 114]⟩ 91 (.type "BufferError"),
    en P ⟨#[69, 79, 70, 69, 114, 114, 111, 114]⟩ 92 (.type "EOFError"),
    en P ⟨#[73, 109, 112, 111, 114, 116, 69, 114, 114, 111, 114]⟩ 93 (.type "ImportError"),
    en P ⟨#[76, 111, 111, 107, 117, 112, 69, 114, 114, 111, 114]⟩ 94 (.type "LookupError"),
    en P ⟨#[77, 101, 109, 111, 114, 121, 69, 114, 114, 111, 114]⟩ 95 (.type "MemoryError"),
    en P ⟨#[78, 97, 109, 101, 69, 114, 114, 111, 114]⟩ 96 (.type "NameError"),
    en P ⟨#[79, 83, 69, 114, 114, 111, 114]⟩ 97 (.type "OSError"),
    en P ⟨#[82, 101, 102, 101, 114, 101, 110, 99, 101, 69, 114, 114, 111, 114]⟩ 98 (.type "ReferenceError"),
    en P ⟨#[82, 117, 110, 116, 105, 109, 101, 69, 114, 114, 111, 114]⟩ 99 (.type "RuntimeError"),
    en P ⟨#[83, 116, 111, 112, 65, 115, 121, 110, 99, 73, 116, 101, 114, 97, 116, 105, 111, 110]⟩ 100 (.type "StopAsyncIteration"),
    en P ⟨#[83, 116, 111, 112, 73, 116, 101, 114, 97, 116, 105, 111, 110]⟩ 101 (.type "StopIteration"),
    en P ⟨#[83, 121, 110, 116, 97, 120, 69, 114, 114, 111, 114]⟩ 102 (.type "SyntaxError"),
    en P ⟨#[83, 121, 115, 116, 101, 109, 69, 114, 114, 111, 114]⟩ 103 (.type "SystemError"),
    en P ⟨#[84, 121, 112, 101, 69, 114, 114, 111, 114]⟩ 104 (.type "TypeError"),
    en P ⟨#[86, 97, 108, 117, 101, 69, 114, 114, 111, 114]⟩ 105 (.type "ValueError"),
    en P ⟨#[87, 97, 114, 110, 105, 110, 103]⟩ 106 (.type "Warning"),
    en P ⟨#[70, 108, 111, 97, 116, 105, 110, 103, 80, 111, 105, 110, 116, 69, 114, 114, 111, 114]⟩ 107 (.type "FloatingPointError"),
    en P ⟨#[79, 118, 101, 114, 102, 108, 111, 119, 69, 114, 114, 111, 114]⟩ 108 (.type "OverflowError"),
    en P ⟨#[90, 101, 114, 111, 68, 105, 118, 105, 115, 105, 111, 110, 69, 114, 114, 111, 114]⟩ 109 (.type "ZeroDivisionError"),
    en P ⟨#[66, 121, 116, 101, 115, 87, 97, 114, 110, 105, 110, 103]⟩ 110 (.type "BytesWarning"),
    en P ⟨#[68, 101, 112, 114, 101, 99, 97, 116, 105, 111, 110, 87, 97, 114, 110, 105, 110, 103]⟩ 111 (.type "DeprecationWarning"),
    en P ⟨#[69, 110, 99, 111, 100, 105, 110, 103, 87, 97, 114, 110, 105, 110, 103]⟩ 112 (.type "EncodingWarning"),
    en P ⟨#[70, 117, 116, 117, 114, 101, 87, 97, 114, 110, 105, 110, 103]⟩ 113 (.type "FutureWarning"),
    en P ⟨#[73, 109, 112, 111, 114, 116, 87, 97, 114, 110, 105, 110, 103]⟩ 114 (.type "ImportWarning"),
    en P ⟨#[80, 101, 110, 100, 105, 110, 103, 68, 101, 112, 114, 101, 99, 97, 116, 105, 111, 110, 87, 97, 114, 110, 105, 110, 103]⟩ 115 (.type "PendingDeprecationWarning"),
    en P ⟨#[82, 101, 115, 111, 117, 114, 99, 101, 87, 97, 114, 110, 105, 110, 103]⟩ 116 (.type "ResourceWarning"),
    en P ⟨#[82, 117, 110, 116, 105, 109, 101, 87, 97, 114, 110, 105, 110, 103]⟩ 117 (.type "RuntimeWarning"),
    en P ⟨#[83, 121, 110, 116, 97, 120, 87, 97, 114, 110, 105, 110, 103]⟩ 118 (.type "SyntaxWarning"),
    en P ⟨#[85, 110, 105, 99, 111, 100, 101, 87, 97, 114, 110, 105, 110, 103]⟩ 119 (.type "UnicodeWarning"),
    en P ⟨#[85, 115, 101, 114, 87, 97, 114, 110, 105, 110, 103]⟩ 120 (.type "UserWarning"),
    en P ⟨#[66, 108, 111, 99, 107, 105, 110, 103, 73, 79, 69, 114, 114, 111, 114]⟩ 121 (.type "BlockingIOError"),
    en P ⟨#[67, 104, 105, 108, 100, 80, 114, 111, 99, 101, 115, 115, 69, 114, 114, 111, 114]⟩ 122 (.type "ChildProcessError"),
    en P ⟨#[67, 111, 110, 110, 101, 99, 116, 105, 111, 110, 69, 114, 114, 111, 114]⟩ 123 (.type "ConnectionError"),
    en P ⟨#[70, 105, 108, 101, 69, 120, 105, 115, 116, 115, 69, 114, 114, 111, 114]⟩ 124 (.type "FileExistsError"),
    en P ⟨#[70, 105, 108, 101, 78, 111, 116, 70, 111, 117, 110, 100, 69, 114, 114, 111, 114]⟩ 125 (.type "FileNotFoundError"),
    en P ⟨#[73, 110, 116, 101, 114, 114, 117, 112, 116, 101, 100, 69, 114, 114, 111, 114]⟩ 126 (.type "InterruptedError"),
    en P ⟨#[73, 115, 65, 68, 105, 114, 101, 99, 116, 111, 114, 121, 69, 114, 114, 111, 114]⟩ 127 (.type "IsADirectoryError"),
    en P ⟨#[78, 111, 116, 65, 68, 105, 114, 101, 99, 116, 111, 114, 121, 69, 114, 114, 111, 114]⟩ 128 (.type "NotADirectoryError"),
    en P ⟨#[80, 101, 114, 109, 105, 115, 115, 105, 111, 110, 69, 114, 114, 111, 114]⟩ 129 (.type "PermissionError"),
    en P ⟨#[80, 114, 111, 99, 101, 115, 115, 76, 111, 111, 107, 117, 112, 69, 114, 114, 111, 114]⟩ 130 (.type "ProcessLookupError"),
    en P ⟨#[84, 105, 109, 101, 111, 117, 116, 69, 114, 114, 111, 114]⟩ 131 (.type "TimeoutError"),
    en P ⟨#[73, 110, 100, 101, 110, 116, 97, 116, 105, 111, 110, 69, 114, 114, 111, 114]⟩ 132 (.type "IndentationError"),
    en P ⟨#[95, 73, 110, 99, 111, 109, 112, 108, 101, 116, 101, 73, 110, 112, 117, 116, 69, 114, 114, 111, 114]⟩ 133 (.type "_IncompleteInputError"),
    en P ⟨#[73, 110, 100, 101, 120, 69, 114, 114, 111, 114]⟩ 134 (.type "IndexError"),
    en P ⟨#[75, 101, 121, 69, 114, 114, 111, 114]⟩ 135 (.type "KeyError"),
    en P ⟨#[77, 111, 100, 117, 108, 101, 78, 111, 116, 70, 111, 117, 110, 100, 69, 114, 114, 111, 114]⟩ 136 (.type "ModuleNotFoundError"),
    en P ⟨#[78, 111, 116, 73, 109, 112, 108, 101, 109, 101, 110, 116, 101, 100, 69, 114, 114, 111, 114]⟩ 137 (.type "NotImplementedError"),
    en P ⟨#[80, 121, 116, 104, 111, 110, 70, 105, 110, 97, 108, 105, 122, 97, 116, 105, 111, 110, 69, 114, 114, 111, 114]⟩ 138 (.type "PythonFinalizationError"),
    en P ⟨#[82, 101, 99, 117, 114, 115, 105, 111, 110, 69, 114, 114, 111, 114]⟩ 139 (.type "RecursionError"),
    en P ⟨#[85, 110, 98, 111, 117, 110, 100, 76, 111, 99, 97, 108, 69, 114, 114, 111, 114]⟩ 140 (.type "UnboundLocalError"),
    en P ⟨#[85, 110, 105, 99, 111, 100, 101, 69, 114, 114, 111, 114]⟩ 141 (.type "UnicodeError"),
    en P ⟨#[66, 114, 111, 107, 101, 110, 80, 105, 112, 101, 69, 114, 114, 111, 114]⟩ 142 (.type "BrokenPipeError"),
    en P ⟨#[67, 111, 110, 110, 101, 99, 116, 105, 111, 110, 65, 98, 111, 114, 116, 101, 100, 69, 114, 114, 111, 114]⟩ 143 (.type "ConnectionAbortedError"),
    en P ⟨#[67, 111, 110, 110, 101, 99, 116, 105, 111, 110, 82, 101, 102, 117, 115, 101, 100, 69, 114, 114, 111, 114]⟩ 144 (.type "ConnectionRefusedError"),
    en P ⟨#[67, 111, 110, 110, 101, 99, 116, 105, 111, 110, 82, 101, 115, 101, 116, 69, 114, 114, 111, 114]⟩ 145 (.type "ConnectionResetError"),
    en P ⟨#[84, 97, 98, 69, 114, 114, 111, 114]⟩ 146 (.type "TabError"),
    en P ⟨#[85, 110, 105, 99, 111, 100, 101, 68, 101, 99, 111, 100, 101, 69, 114, 114, 111, 114]⟩ 147 (.type "UnicodeDecodeError"),
    en P ⟨#[85, 110, 105, 99, 111, 100, 101, 69, 110, 99, 111, 100, 101, 69, 114, 114, 111, 114]⟩ 148 (.type "UnicodeEncodeError"),
    en P ⟨#[85, 110, 105, 99, 111, 100, 101, 84, 114, 97, 110, 115, 108, 97, 116, 101, 69, 114, 114, 111, 114]⟩ 149 (.type "UnicodeTranslateError"),
    en P ⟨#[69, 120, 99, 101, 112, 116, 105, 111, 110, 71, 114, 111, 117, 112]⟩ 150 (.type "ExceptionGroup"),
    en P ⟨#[69, 110, 118, 105, 114, 111, 110, 109, 101, 110, 116, 69, 114, 114, 111, 114]⟩ 151 (.type "OSError"),
    en P ⟨#[73, 79, 69, 114, 114, 111, 114]⟩ 152 (.type "OSError"),
    en P ⟨#[111, 112, 101, 110]⟩ 153 (.builtin "open"),
    en P ⟨#[113, 117, 105, 116]⟩ 154 (.builtin "builtins.quit#opaque"),
    en P ⟨#[101, 120, 105, 116]⟩ 155 (.builtin "builtins.exit#opaque"),
    en P ⟨#[99, 111, 112, 121, 114, 105, 103, 104, 116]⟩ 156 (.builtin "builtins.copyright#opaque"),
    en P ⟨#[99, 114, 101, 100, 105, 116, 115]⟩ 157 (.builtin "builtins.credits#opaque"),
    en P ⟨#[108, 105, 99, 101, 110, 115, 101]⟩ 158 (.builtin "builtins.license#opaque"),
    en P ⟨#[104, 101, 108, 112]⟩ 159 (.builtin "builtins.help#opaque")] 159, #[]⟩
noncomputable def o2 (P : Params) : Obj := ⟨.none, none, .dict #[en P ⟨#[105, 109, 112, 111, 114, 116, 46, 108, 111, 97, 100, 101, 100, 46, 95, 115, 114, 101]⟩ 183 (.bool true),
    en P ⟨#[99, 108, 97, 115, 115, 46, 95, 102, 114, 111, 122, 101, 110, 95, 105, 109, 112, 111, 114, 116, 108, 105, 98, 46, 66, 117, 105, 108, 116, 105, 110, 73, 109, 112, 111, 114, 116, 101, 114]⟩ 185 (.ref 14),
    en P ⟨#[119, 97, 116, 99, 104, 101, 100, 46, 105, 109, 112, 111, 114, 116]⟩ 206 (.ref 18),
    en P ⟨#[99, 108, 97, 115, 115, 46, 95, 102, 114, 111, 122, 101, 110, 95, 105, 109, 112, 111, 114, 116, 108, 105, 98, 46, 77, 111, 100, 117, 108, 101, 83, 112, 101, 99]⟩ 216 (.ref 22),
    en P ⟨#[115, 121, 115, 46, 109, 111, 100, 117, 108, 101, 115, 46, 98, 111, 111, 107, 101, 100, 45, 101, 112, 111, 99, 104]⟩ 245 (.int 4 0),
    en P ⟨#[105, 109, 112, 111, 114, 116, 46, 108, 97, 116, 101, 114, 45, 108, 97, 105, 100, 46, 95, 115, 114, 101]⟩ 270 (.bool true),
    en P ⟨#[119, 97, 116, 99, 104, 101, 100, 46, 108, 105, 98, 114, 97, 114, 121]⟩ 272 (.ref 27),
    en P ⟨#[119, 97, 116, 99, 104, 101, 100, 46, 108, 105, 98, 114, 97, 114, 121, 45, 111, 98, 106, 101, 99, 116, 115]⟩ 0 (.str ⟨#[12, 30]⟩ 0),
    en P ⟨#[119, 97, 116, 99, 104, 101, 100, 46, 108, 105, 98, 114, 97, 114, 121, 45, 100, 101, 101, 112, 46, 95, 115, 114, 101]⟩ 273 (.str ⟨#[4, 0, 0, 11, 4, 0, 0, 11, 4, 0, 0, 3, 4, 0, 0, 11, 8, 4, 100, 105, 99, 116, 2]⟩ 0),
    en P ⟨#[105, 109, 112, 111, 114, 116, 46, 108, 111, 97, 100, 101, 100, 46, 95, 99, 111, 108, 108, 101, 99, 116, 105, 111, 110, 115]⟩ 280 (.bool true),
    en P ⟨#[115, 121, 115, 46, 109, 111, 100, 117, 108, 101, 115, 46, 108, 97, 110, 100, 101, 100, 46, 95, 99, 111, 108, 108, 101, 99, 116, 105, 111, 110, 115]⟩ 294 (.bool true),
    en P ⟨#[105, 109, 112, 111, 114, 116, 46, 108, 97, 116, 101, 114, 45, 108, 97, 105, 100, 46, 95, 99, 111, 108, 108, 101, 99, 116, 105, 111, 110, 115]⟩ 309 (.bool true),
    en P ⟨#[119, 97, 116, 99, 104, 101, 100, 46, 108, 105, 98, 114, 97, 114, 121, 45, 100, 101, 101, 112, 46, 95, 99, 111, 108, 108, 101, 99, 116, 105, 111, 110, 115]⟩ 311 (.str ⟨#[4, 0, 0, 29, 4, 0, 0, 29, 4, 0, 0, 3, 4, 0, 0, 29, 8, 4, 100, 105, 99, 116, 2]⟩ 0),
    en P ⟨#[116, 121, 112, 101, 46, 95, 95, 115, 117, 98, 99, 108, 97, 115, 115, 101, 115, 95, 95, 46, 79, 83, 69, 114, 114, 111, 114, 46, 48]⟩ 407 (.int 73 0),
    en P ⟨#[116, 121, 112, 101, 46, 95, 95, 115, 117, 98, 99, 108, 97, 115, 115, 101, 115, 95, 95, 46, 79, 83, 69, 114, 114, 111, 114, 46, 110]⟩ 408 (.int 1 0)] 15, #[]⟩
noncomputable def o3 (P : Params) : Obj := ⟨.type "dict", none, .dict #[en P ⟨#[95, 95, 110, 97, 109, 101, 95, 95]⟩ 165 (.str ⟨#[108, 97, 119, 95, 114, 116, 48, 49, 49, 50, 95, 48, 49]⟩ 1450),
    en P ⟨#[95, 95, 100, 111, 99, 95, 95]⟩ 166 (.none),
    en P ⟨#[95, 95, 112, 97, 99, 107, 97, 103, 101, 95, 95]⟩ 167 (.none),
    en P ⟨#[95, 95, 108, 111, 97, 100, 101, 114, 95, 95]⟩ 168 (.builtin "__main__.__loader__#opaque"),
    en P ⟨#[95, 95, 115, 112, 101, 99, 95, 95]⟩ 169 (.none),
    en P ⟨#[95, 95, 97, 110, 110, 111, 116, 97, 116, 105, 111, 110, 115, 95, 95]⟩ 170 (.ref 6),
    en P ⟨#[95, 95, 98, 117, 105, 108, 116, 105, 110, 115, 95, 95]⟩ 171 (.ref 4),
    en P ⟨#[95, 95, 102, 105, 108, 101, 95, 95]⟩ 173 (.str ⟨#[47, 99, 108, 97, 105, 109, 47, 99, 117, 116, 46, 112, 121]⟩ 172),
    en P ⟨#[95, 95, 99, 97, 99, 104, 101, 100, 95, 95]⟩ 174 (.none),
    en P ⟨#[95, 115, 114, 101]⟩ 275 (.ref 12),
    en P ⟨#[100, 101, 113, 117, 101]⟩ 317 (.type "collections.deque"),
    en P ⟨#[95, 119, 97, 108, 108]⟩ 330 (.ref 44),
    en P ⟨#[95, 116, 119, 105, 110, 95, 114, 101, 95, 49]⟩ 370 (.ref 49),
    en P ⟨#[95, 119, 104, 101, 110, 99, 101]⟩ 380 (.ref 56),
    en P ⟨#[95, 105, 110, 100, 101, 120]⟩ 388 (.ref 63),
    en P ⟨#[85, 110, 115, 117, 112, 112, 111, 114, 116, 101, 100, 79, 112, 101, 114, 97, 116, 105, 111, 110]⟩ 410 (.ref 73),
    en P ⟨#[73, 79, 66, 97, 115, 101]⟩ 442 (.ref 93),
    en P ⟨#[66, 117, 102, 102, 101, 114, 101, 100, 73, 79, 66, 97, 115, 101]⟩ 460 (.ref 108),
    en P ⟨#[84, 101, 120, 116, 73, 79, 66, 97, 115, 101]⟩ 478 (.ref 120),
    en P ⟨#[66, 121, 116, 101, 115, 73, 79]⟩ 740 (.ref 350),
    en P ⟨#[83, 116, 114, 105, 110, 103, 73, 79]⟩ 1027 (.ref 597),
    en P ⟨#[95, 107, 105, 110, 100]⟩ 1038 (.ref 606),
    en P ⟨#[95, 102, 115, 112, 97, 116, 104]⟩ 1047 (.ref 613),
    en P ⟨#[95, 99, 104, 101, 99, 107, 95, 97, 114, 103, 95, 116, 121, 112, 101, 115]⟩ 1057 (.ref 832),
    en P ⟨#[99, 104, 101, 99, 107, 95, 97, 114, 103, 95, 116, 121, 112, 101, 115, 95, 112, 97, 116, 104]⟩ 1058 (.ref 620),
    en P ⟨#[105, 115, 97, 98, 115]⟩ 1065 (.ref 627),
    en P ⟨#[106, 111, 105, 110]⟩ 1076 (.ref 846),
    en P ⟨#[106, 111, 105, 110, 95, 112, 97, 116, 104]⟩ 1077 (.ref 634),
    en P ⟨#[100, 105, 114, 110, 97, 109, 101]⟩ 1087 (.ref 641),
    en P ⟨#[115, 104, 108, 101, 120]⟩ 1228 (.ref 732),
    en P ⟨#[115, 112, 108, 105, 116]⟩ 1238 (.ref 744),
    en P ⟨#[95, 102, 105, 110, 100, 95, 117, 110, 115, 97, 102, 101]⟩ 1240 (.ref 745),
    en P ⟨#[113, 117, 111, 116, 101]⟩ 1247 (.ref 752),
    en P ⟨#[95, 112, 108, 97, 105, 110, 95, 110, 97, 109, 101]⟩ 1258 (.ref 759),
    en P ⟨#[65, 66, 67, 77, 101, 116, 97]⟩ 1284 (.ref 776),
    en P ⟨#[95, 65, 66, 67, 76, 105, 107, 101]⟩ 1327 (.ref 809),
    en P ⟨#[95, 97, 98, 99, 95, 112, 108, 97, 105, 110, 95, 109, 101, 116, 97]⟩ 1334 (.ref 818),
    en P ⟨#[102, 115, 112, 97, 116, 104]⟩ 1346 (.ref 825),
    en P ⟨#[99, 104, 101, 99, 107, 95, 97, 114, 103, 95, 116, 121, 112, 101, 115, 95, 103, 101, 110, 101, 114, 105, 99, 112, 97, 116, 104]⟩ 1360 (.ref 832),
    en P ⟨#[95, 103, 101, 116, 95, 115, 101, 112]⟩ 1369 (.ref 839),
    en P ⟨#[106, 111, 105, 110, 95, 112, 111, 115, 105, 120, 112, 97, 116, 104]⟩ 1381 (.ref 846),
    en P ⟨#[115, 112, 108, 105, 116, 114, 111, 111, 116]⟩ 1390 (.ref 853),
    en P ⟨#[110, 111, 114, 109, 112, 97, 116, 104]⟩ 1405 (.ref 860),
    en P ⟨#[95, 114, 97, 105, 115, 101, 95, 115, 101, 114, 105, 97, 108, 105, 122, 97, 116, 105, 111, 110, 95, 101, 114, 114, 111, 114]⟩ 1414 (.ref 867),
    en P ⟨#[95, 101, 115, 99, 97, 112, 101, 95, 99, 100, 97, 116, 97]⟩ 1421 (.ref 874),
    en P ⟨#[95, 101, 115, 99, 97, 112, 101, 95, 97, 116, 116, 114, 105, 98]⟩ 1428 (.ref 881),
    en P ⟨#[95, 101, 115, 99, 97, 112, 101, 95, 97, 116, 116, 114, 105, 98, 95, 104, 116, 109, 108]⟩ 1435 (.ref 888),
    en P ⟨#[95, 101, 115, 99, 97, 112, 101, 95, 99, 100, 97, 116, 97, 95, 99, 49, 52, 110]⟩ 1442 (.ref 895),
    en P ⟨#[95, 101, 115, 99, 97, 112, 101, 95, 97, 116, 116, 114, 105, 98, 95, 99, 49, 52, 110]⟩ 1449 (.ref 902),
    en P ⟨#[95, 108, 97, 119, 95, 115, 104, 97, 112, 101]⟩ 1462 (.ref 909),
    en P ⟨#[95, 108, 97, 119, 95, 116, 111, 108, 100]⟩ 1468 (.ref 914),
    en P ⟨#[95, 108, 97, 119, 95, 109, 97, 114, 107, 115]⟩ 1474 (.ref 919),
    en P ⟨#[95, 108, 97, 119, 95, 114, 111, 119]⟩ 1483 (.ref 926),
    en P ⟨#[108, 97, 119]⟩ 1489 (.ref 931)] 54, #[]⟩
noncomputable def o48 (P : Params) : Obj := ⟨.type "tuple", none, .seq #[.int 14 0, .int 17 0, .int 4 0, .int 1 0, .int 1 0, .int 21 0, .int 9 0, .int 0 0, .int 604043296 0, .int 1 0, .int 0 0, .int 0 0, .int 0 0, .int 0 0, .int 0 0, .int 8 0, .int 4 0, .int 0 0, .int 13 0, .int 14 0, .int 21 0, .int 9 0, .int 0 0, .int 604043296 0, .int 1 0, .int 0 0, .int 0 0, .int 0 0, .int 0 0, .int 0 0, .int 8 0, .int 4 0, .int 0 0, .int 1 0] 0, #[]⟩
noncomputable def o49 (P : Params) : Obj := ⟨.type "re.Pattern", none, .fields #[.str ⟨#[91, 94, 92, 119, 64, 37, 43, 61, 58, 44, 46, 47, 45, 93]⟩ 332, .int 256 369, .int 0 0, .none, .none, .ref 48, .int 0 0], #[]⟩
noncomputable def o62 (P : Params) : Obj := ⟨.type "code", none, .fields #[.str ⟨#[95, 105, 110, 100, 101, 120]⟩ 381, .str ⟨#[95, 105, 110, 100, 101, 120]⟩ 382, .str ⟨#[47, 99, 108, 97, 105, 109, 47, 99, 117, 116, 46, 112, 121]⟩ 383, .int 13 0, .int 2 0, .int 0 0, .int 0 0, .int 3 0, .ref 57, .bool true, .int 318 0, .ref 58, .none, .ref 59, .ref 60, .ref 61, .int 386 0, .int 13 0, .str ⟨#[47, 99, 108, 97, 105, 109, 47, 99, 117, 116, 46, 112, 121]⟩ 387], #[]⟩
noncomputable def o63 (P : Params) : Obj := ⟨.type "function", none, .func { name := ⟨#[95, 105, 110, 100, 101, 120]⟩, qualname := ⟨#[95, 105, 110, 100, 101, 120]⟩, params := fnP (stAt pw.main.body 6), body := .stmts (fnB (stAt pw.main.body 6)), scope := fnS (stAt pw.main.body 6), globals := 3, closure := [], defaults := .none, kwdefaults := .none, doc := .none, pyModule := .str ⟨#[105, 111]⟩ 371, annotations := none, code := .ref 62, closureTuple := .none, builtins := 0 }, #[]⟩
noncomputable def o89 (P : Params) : Obj := ⟨.type "code", none, .fields #[.str ⟨#[95, 95, 110, 101, 119, 95, 95]⟩ 425, .str ⟨#[73, 79, 66, 97, 115, 101, 46, 95, 95, 110, 101, 119, 95, 95]⟩ 426, .str ⟨#[47, 99, 108, 97, 105, 109, 47, 99, 117, 116, 46, 112, 121]⟩ 427, .int 25 0, .int 1 0, .int 1 0, .int 0 0, .int 15 0, .ref 84, .bool true, .int 318 0, .ref 85, .none, .ref 86, .ref 87, .ref 88, .int 431 0, .int 25 0, .str ⟨#[47, 99, 108, 97, 105, 109, 47, 99, 117, 116, 46, 112, 121]⟩ 432], #[]⟩
noncomputable def o90 (P : Params) : Obj := ⟨.type "function", none, .func { name := ⟨#[95, 95, 110, 101, 119, 95, 95]⟩, qualname := ⟨#[73, 79, 66, 97, 115, 101, 46, 95, 95, 110, 101, 119, 95, 95]⟩, params := fnP (stAt (clsB (stAt pw.main.body 8)) 1), body := .stmts (fnB (stAt (clsB (stAt pw.main.body 8)) 1)), scope := fnS (stAt (clsB (stAt pw.main.body 8)) 1), globals := 3, closure := [], defaults := .none, kwdefaults := .none, doc := .none, pyModule := .str ⟨#[105, 111]⟩ 371, annotations := none, code := .ref 89, closureTuple := .none, builtins := 0 }, #[]⟩
noncomputable def o92 (P : Params) : Obj := ⟨.type "dict", none, .dict #[en P ⟨#[95, 95, 109, 111, 100, 117, 108, 101, 95, 95]⟩ 418 (.str ⟨#[105, 111]⟩ 423),
    en P ⟨#[95, 95, 102, 105, 114, 115, 116, 108, 105, 110, 101, 110, 111, 95, 95]⟩ 422 (.int 22 421),
    en P ⟨#[95, 95, 110, 101, 119, 95, 95]⟩ 433 (.ref 94),
    en P ⟨#[95, 95, 115, 116, 97, 116, 105, 99, 95, 97, 116, 116, 114, 105, 98, 117, 116, 101, 115, 95, 95]⟩ 434 (.ref 91),
    en P ⟨#[95, 95, 100, 105, 99, 116, 95, 95]⟩ 437 (.ref 95),
    en P ⟨#[95, 95, 119, 101, 97, 107, 114, 101, 102, 95, 95]⟩ 439 (.ref 96),
    en P ⟨#[95, 95, 100, 111, 99, 95, 95]⟩ 440 (.none)] 4, #[]⟩
noncomputable def o93 (P : Params) : Obj := ⟨.type "type", none, .cls { name := ⟨#[73, 79, 66, 97, 115, 101]⟩, bases := [.type "object"], mro := [.ref 93, .type "object"], ns := 92, qualname := ⟨#[73, 79, 66, 97, 115, 101]⟩, hasDict := true, slotNames := [], subclasses := [.ref 108, .ref 120], abstract := false, collection := none, hasDel := false }, #[none, none, (some (.str ⟨#[73, 79, 66, 97, 115, 101]⟩ 411)), (some (.str ⟨#[73, 79, 66, 97, 115, 101]⟩ 419)), (some (.none)), (some (.bool true))]⟩
noncomputable def o94 (P : Params) : Obj := ⟨.type "staticmethod", none, .fields #[.ref 90], #[]⟩
noncomputable def o119 (P : Params) : Obj := ⟨.type "dict", none, .dict #[en P ⟨#[95, 95, 109, 111, 100, 117, 108, 101, 95, 95]⟩ 468 (.str ⟨#[105, 111]⟩ 473),
    en P ⟨#[95, 95, 102, 105, 114, 115, 116, 108, 105, 110, 101, 110, 111, 95, 95]⟩ 472 (.int 31 471),
    en P ⟨#[95, 95, 115, 116, 97, 116, 105, 99, 95, 97, 116, 116, 114, 105, 98, 117, 116, 101, 115, 95, 95]⟩ 475 (.ref 118),
    en P ⟨#[95, 95, 100, 111, 99, 95, 95]⟩ 476 (.none)] 2, #[]⟩
noncomputable def o120 (P : Params) : Obj := ⟨.type "type", none, .cls { name := ⟨#[84, 101, 120, 116, 73, 79, 66, 97, 115, 101]⟩, bases := [.ref 93], mro := [.ref 120, .ref 93, .type "object"], ns := 119, qualname := ⟨#[84, 101, 120, 116, 73, 79, 66, 97, 115, 101]⟩, hasDict := true, slotNames := [], subclasses := [.ref 597], abstract := false, collection := none, hasDel := false }, #[(some (.ref 111)), none, (some (.str ⟨#[84, 101, 120, 116, 73, 79, 66, 97, 115, 101]⟩ 461)), (some (.str ⟨#[84, 101, 120, 116, 73, 79, 66, 97, 115, 101]⟩ 469)), (some (.none)), (some (.bool true))]⟩
noncomputable def o350 (P : Params) : Obj := ⟨.type "type", none, .cls { name := ⟨#[66, 121, 116, 101, 115, 73, 79]⟩, bases := [.ref 108], mro := [.ref 350, .ref 108, .ref 93, .type "object"], ns := 349, qualname := ⟨#[66, 121, 116, 101, 115, 73, 79]⟩, hasDict := true, slotNames := [], subclasses := [], abstract := false, collection := none, hasDel := false }, #[(some (.ref 123)), none, (some (.str ⟨#[66, 121, 116, 101, 115, 73, 79]⟩ 479)), (some (.str ⟨#[66, 121, 116, 101, 115, 73, 79]⟩ 487)), (some (.none)), (some (.bool true))]⟩
noncomputable def o360 (P : Params) : Obj := ⟨.type "tuple", none, .seq #[.str ⟨#[]⟩ 755, .str ⟨#[10]⟩ 756] 0, #[]⟩
noncomputable def o366 (P : Params) : Obj := ⟨.type "code", none, .fields #[.str ⟨#[95, 95, 105, 110, 105, 116, 95, 95]⟩ 757, .str ⟨#[83, 116, 114, 105, 110, 103, 73, 79, 46, 95, 95, 105, 110, 105, 116, 95, 95]⟩ 758, .str ⟨#[47, 99, 108, 97, 105, 109, 47, 99, 117, 116, 46, 112, 121]⟩ 759, .int 206 0, .int 3 0, .int 0 0, .int 0 0, .int 3 0, .ref 361, .bool true, .int 318 0, .ref 362, .none, .ref 363, .ref 364, .ref 365, .int 763 0, .int 206 0, .str ⟨#[47, 99, 108, 97, 105, 109, 47, 99, 117, 116, 46, 112, 121]⟩ 764], #[]⟩
noncomputable def o367 (P : Params) : Obj := ⟨.type "function", none, .func { name := ⟨#[95, 95, 105, 110, 105, 116, 95, 95]⟩, qualname := ⟨#[83, 116, 114, 105, 110, 103, 73, 79, 46, 95, 95, 105, 110, 105, 116, 95, 95]⟩, params := fnP (stAt (clsB (stAt pw.main.body 12)) 1), body := .stmts (fnB (stAt (clsB (stAt pw.main.body 12)) 1)), scope := fnS (stAt (clsB (stAt pw.main.body 12)) 1), globals := 3, closure := [], defaults := .ref 360, kwdefaults := .none, doc := .none, pyModule := .str ⟨#[105, 111]⟩ 371, annotations := none, code := .ref 366, closureTuple := .none, builtins := 0 }, #[]⟩
noncomputable def o373 (P : Params) : Obj := ⟨.type "code", none, .fields #[.str ⟨#[95, 95, 116, 114, 97, 110, 115, 108, 97, 116, 101, 100]⟩ 766, .str ⟨#[83, 116, 114, 105, 110, 103, 73, 79, 46, 95, 95, 116, 114, 97, 110, 115, 108, 97, 116, 101, 100]⟩ 767, .str ⟨#[47, 99, 108, 97, 105, 109, 47, 99, 117, 116, 46, 112, 121]⟩ 768, .int 219 0, .int 2 0, .int 0 0, .int 0 0, .int 3 0, .ref 368, .bool true, .int 318 0, .ref 369, .none, .ref 370, .ref 371, .ref 372, .int 772 0, .int 219 0, .str ⟨#[47, 99, 108, 97, 105, 109, 47, 99, 117, 116, 46, 112, 121]⟩ 773], #[]⟩
noncomputable def o374 (P : Params) : Obj := ⟨.type "function", none, .func { name := ⟨#[95, 95, 116, 114, 97, 110, 115, 108, 97, 116, 101, 100]⟩, qualname := ⟨#[83, 116, 114, 105, 110, 103, 73, 79, 46, 95, 95, 116, 114, 97, 110, 115, 108, 97, 116, 101, 100]⟩, params := fnP (stAt (clsB (stAt pw.main.body 12)) 2), body := .stmts (fnB (stAt (clsB (stAt pw.main.body 12)) 2)), scope := fnS (stAt (clsB (stAt pw.main.body 12)) 2), globals := 3, closure := [], defaults := .none, kwdefaults := .none, doc := .none, pyModule := .str ⟨#[105, 111]⟩ 371, annotations := none, code := .ref 373, closureTuple := .none, builtins := 0 }, #[]⟩
noncomputable def o380 (P : Params) : Obj := ⟨.type "code", none, .fields #[.str ⟨#[95, 95, 99, 104, 101, 99, 107]⟩ 775, .str ⟨#[83, 116, 114, 105, 110, 103, 73, 79, 46, 95, 95, 99, 104, 101, 99, 107]⟩ 776, .str ⟨#[47, 99, 108, 97, 105, 109, 47, 99, 117, 116, 46, 112, 121]⟩ 777, .int 227 0, .int 1 0, .int 0 0, .int 0 0, .int 3 0, .ref 375, .bool true, .int 318 0, .ref 376, .none, .ref 377, .ref 378, .ref 379, .int 779 0, .int 227 0, .str ⟨#[47, 99, 108, 97, 105, 109, 47, 99, 117, 116, 46, 112, 121]⟩ 780], #[]⟩
noncomputable def o381 (P : Params) : Obj := ⟨.type "function", none, .func { name := ⟨#[95, 95, 99, 104, 101, 99, 107]⟩, qualname := ⟨#[83, 116, 114, 105, 110, 103, 73, 79, 46, 95, 95, 99, 104, 101, 99, 107]⟩, params := fnP (stAt (clsB (stAt pw.main.body 12)) 3), body := .stmts (fnB (stAt (clsB (stAt pw.main.body 12)) 3)), scope := fnS (stAt (clsB (stAt pw.main.body 12)) 3), globals := 3, closure := [], defaults := .none, kwdefaults := .none, doc := .none, pyModule := .str ⟨#[105, 111]⟩ 371, annotations := none, code := .ref 380, closureTuple := .none, builtins := 0 }, #[]⟩
noncomputable def o536 (P : Params) : Obj := ⟨.type "tuple", none, .seq #[.int (-1) 948] 0, #[]⟩
noncomputable def o542 (P : Params) : Obj := ⟨.type "code", none, .fields #[.str ⟨#[114, 101, 97, 100]⟩ 949, .str ⟨#[83, 116, 114, 105, 110, 103, 73, 79, 46, 114, 101, 97, 100]⟩ 950, .str ⟨#[47, 99, 108, 97, 105, 109, 47, 99, 117, 116, 46, 112, 121]⟩ 951, .int 349 0, .int 2 0, .int 2 0, .int 0 0, .int 3 0, .ref 537, .bool true, .int 318 0, .ref 538, .none, .ref 539, .ref 540, .ref 541, .int 956 0, .int 349 0, .str ⟨#[47, 99, 108, 97, 105, 109, 47, 99, 117, 116, 46, 112, 121]⟩ 957], #[]⟩
noncomputable def o543 (P : Params) : Obj := ⟨.type "function", none, .func { name := ⟨#[114, 101, 97, 100]⟩, qualname := ⟨#[83, 116, 114, 105, 110, 103, 73, 79, 46, 114, 101, 97, 100]⟩, params := fnP (stAt (clsB (stAt pw.main.body 12)) 25), body := .stmts (fnB (stAt (clsB (stAt pw.main.body 12)) 25)), scope := fnS (stAt (clsB (stAt pw.main.body 12)) 25), globals := 3, closure := [], defaults := .ref 536, kwdefaults := .none, doc := .none, pyModule := .str ⟨#[105, 111]⟩ 371, annotations := none, code := .ref 542, closureTuple := .none, builtins := 0 }, #[]⟩
noncomputable def o596 (P : Params) : Obj := ⟨.type "dict", none, .dict #[en P ⟨#[95, 95, 109, 111, 100, 117, 108, 101, 95, 95]⟩ 748 (.str ⟨#[95, 105, 111]⟩ 753),
    en P ⟨#[95, 95, 102, 105, 114, 115, 116, 108, 105, 110, 101, 110, 111, 95, 95]⟩ 752 (.int 203 751),
    en P ⟨#[95, 95, 105, 110, 105, 116, 95, 95]⟩ 765 (.ref 367),
    en P ⟨#[95, 83, 116, 114, 105, 110, 103, 73, 79, 95, 95, 116, 114, 97, 110, 115, 108, 97, 116, 101, 100]⟩ 774 (.ref 374),
    en P ⟨#[95, 83, 116, 114, 105, 110, 103, 73, 79, 95, 95, 99, 104, 101, 99, 107]⟩ 781 (.ref 381),
    en P ⟨#[95, 83, 116, 114, 105, 110, 103, 73, 79, 95, 95, 99, 104, 101, 99, 107, 95, 100, 111, 116]⟩ 788 (.ref 388),
    en P ⟨#[95, 83, 116, 114, 105, 110, 103, 73, 79, 95, 95, 108, 105, 110, 101]⟩ 803 (.ref 395),
    en P ⟨#[99, 108, 111, 115, 101, 100]⟩ 811 (.ref 403),
    en P ⟨#[108, 105, 110, 101, 95, 98, 117, 102, 102, 101, 114, 105, 110, 103]⟩ 819 (.ref 411),
    en P ⟨#[110, 101, 119, 108, 105, 110, 101, 115]⟩ 827 (.ref 419),
    en P ⟨#[101, 110, 99, 111, 100, 105, 110, 103]⟩ 835 (.ref 427),
    en P ⟨#[101, 114, 114, 111, 114, 115]⟩ 843 (.ref 435),
    en P ⟨#[99, 108, 111, 115, 101]⟩ 850 (.ref 442),
    en P ⟨#[95, 95, 101, 110, 116, 101, 114, 95, 95]⟩ 857 (.ref 449),
    en P ⟨#[95, 95, 101, 120, 105, 116, 95, 95]⟩ 865 (.ref 456),
    en P ⟨#[114, 101, 97, 100, 97, 98, 108, 101]⟩ 872 (.ref 463),
    en P ⟨#[119, 114, 105, 116, 97, 98, 108, 101]⟩ 879 (.ref 470),
    en P ⟨#[115, 101, 101, 107, 97, 98, 108, 101]⟩ 886 (.ref 477),
    en P ⟨#[105, 115, 97, 116, 116, 121]⟩ 893 (.ref 484),
    en P ⟨#[102, 108, 117, 115, 104]⟩ 900 (.ref 491),
    en P ⟨#[102, 105, 108, 101, 110, 111]⟩ 907 (.ref 498),
    en P ⟨#[100, 101, 116, 97, 99, 104]⟩ 914 (.ref 505),
    en P ⟨#[103, 101, 116, 118, 97, 108, 117, 101]⟩ 921 (.ref 512),
    en P ⟨#[116, 101, 108, 108]⟩ 928 (.ref 519),
    en P ⟨#[115, 101, 101, 107]⟩ 938 (.ref 527),
    en P ⟨#[116, 114, 117, 110, 99, 97, 116, 101]⟩ 946 (.ref 535),
    en P ⟨#[114, 101, 97, 100]⟩ 958 (.ref 543),
    en P ⟨#[114, 101, 97, 100, 108, 105, 110, 101]⟩ 968 (.ref 551),
    en P ⟨#[114, 101, 97, 100, 108, 105, 110, 101, 115]⟩ 978 (.ref 559),
    en P ⟨#[95, 95, 105, 116, 101, 114, 95, 95]⟩ 985 (.ref 566),
    en P ⟨#[95, 95, 110, 101, 120, 116, 95, 95]⟩ 993 (.ref 573),
    en P ⟨#[119, 114, 105, 116, 101]⟩ 1005 (.ref 580),
    en P ⟨#[119, 114, 105, 116, 101, 108, 105, 110, 101, 115]⟩ 1013 (.ref 587),
    en P ⟨#[95, 95, 114, 101, 112, 114, 95, 95]⟩ 1020 (.ref 594),
    en P ⟨#[95, 95, 115, 116, 97, 116, 105, 99, 95, 97, 116, 116, 114, 105, 98, 117, 116, 101, 115, 95, 95]⟩ 1024 (.ref 595),
    en P ⟨#[95, 95, 100, 111, 99, 95, 95]⟩ 1025 (.none)] 2, #[]⟩
noncomputable def o597 (P : Params) : Obj := ⟨.type "type", none, .cls { name := ⟨#[83, 116, 114, 105, 110, 103, 73, 79]⟩, bases := [.ref 120], mro := [.ref 597, .ref 120, .ref 93, .type "object"], ns := 596, qualname := ⟨#[83, 116, 114, 105, 110, 103, 73, 79]⟩, hasDict := true, slotNames := [], subclasses := [], abstract := false, collection := none, hasDel := false }, #[(some (.ref 353)), none, (some (.str ⟨#[83, 116, 114, 105, 110, 103, 73, 79]⟩ 741)), (some (.str ⟨#[83, 116, 114, 105, 110, 103, 73, 79]⟩ 749)), (some (.none)), (some (.bool true))]⟩
noncomputable def o649 (P : Params) : Obj := ⟨.type "tuple", none, .seq #[.none, .none, .bool false, .bool false] 0, #[]⟩
noncomputable def o655 (P : Params) : Obj := ⟨.type "code", none, .fields #[.str ⟨#[95, 95, 105, 110, 105, 116, 95, 95]⟩ 1102, .str ⟨#[115, 104, 108, 101, 120, 46, 95, 95, 105, 110, 105, 116, 95, 95]⟩ 1103, .str ⟨#[47, 99, 108, 97, 105, 109, 47, 99, 117, 116, 46, 112, 121]⟩ 1104, .int 476 0, .int 5 0, .int 0 0, .int 0 0, .int 3 0, .ref 650, .bool true, .int 318 0, .ref 651, .none, .ref 652, .ref 653, .ref 654, .int 1111 0, .int 476 0, .str ⟨#[47, 99, 108, 97, 105, 109, 47, 99, 117, 116, 46, 112, 121]⟩ 1112], #[]⟩
noncomputable def o656 (P : Params) : Obj := ⟨.type "function", none, .func { name := ⟨#[95, 95, 105, 110, 105, 116, 95, 95]⟩, qualname := ⟨#[115, 104, 108, 101, 120, 46, 95, 95, 105, 110, 105, 116, 95, 95]⟩, params := fnP (stAt (clsB (stAt pw.main.body 23)) 0), body := .stmts (fnB (stAt (clsB (stAt pw.main.body 23)) 0)), scope := fnS (stAt (clsB (stAt pw.main.body 23)) 0), globals := 3, closure := [], defaults := .ref 649, kwdefaults := .none, doc := .none, pyModule := .str ⟨#[99, 112, 121, 51, 49, 51, 46, 115, 104, 108, 101, 120]⟩ 1088, annotations := none, code := .ref 655, closureTuple := .none, builtins := 0 }, #[]⟩
noncomputable def o662 (P : Params) : Obj := ⟨.type "code", none, .fields #[.str ⟨#[112, 117, 110, 99, 116, 117, 97, 116, 105, 111, 110, 95, 99, 104, 97, 114, 115]⟩ 1114, .str ⟨#[115, 104, 108, 101, 120, 46, 112, 117, 110, 99, 116, 117, 97, 116, 105, 111, 110, 95, 99, 104, 97, 114, 115]⟩ 1115, .str ⟨#[47, 99, 108, 97, 105, 109, 47, 99, 117, 116, 46, 112, 121]⟩ 1116, .int 517 0, .int 1 0, .int 0 0, .int 0 0, .int 3 0, .ref 657, .bool true, .int 318 0, .ref 658, .none, .ref 659, .ref 660, .ref 661, .int 1118 0, .int 517 0, .str ⟨#[47, 99, 108, 97, 105, 109, 47, 99, 117, 116, 46, 112, 121]⟩ 1119], #[]⟩
noncomputable def o663 (P : Params) : Obj := ⟨.type "function", none, .func { name := ⟨#[112, 117, 110, 99, 116, 117, 97, 116, 105, 111, 110, 95, 99, 104, 97, 114, 115]⟩, qualname := ⟨#[115, 104, 108, 101, 120, 46, 112, 117, 110, 99, 116, 117, 97, 116, 105, 111, 110, 95, 99, 104, 97, 114, 115]⟩, params := fnP (stAt (clsB (stAt pw.main.body 23)) 1), body := .stmts (fnB (stAt (clsB (stAt pw.main.body 23)) 1)), scope := fnS (stAt (clsB (stAt pw.main.body 23)) 1), globals := 3, closure := [], defaults := .none, kwdefaults := .none, doc := .none, pyModule := .str ⟨#[99, 112, 121, 51, 49, 51, 46, 115, 104, 108, 101, 120]⟩ 1088, annotations := none, code := .ref 662, closureTuple := .none, builtins := 0 }, #[]⟩
noncomputable def o664 (P : Params) : Obj := ⟨.type "property", none, .fields #[.ref 663, .none, .none, .none, .str ⟨#[112, 117, 110, 99, 116, 117, 97, 116, 105, 111, 110, 95, 99, 104, 97, 114, 115]⟩ 1121, .bool false], #[]⟩
noncomputable def o692 (P : Params) : Obj := ⟨.type "code", none, .fields #[.str ⟨#[103, 101, 116, 95, 116, 111, 107, 101, 110]⟩ 1146, .str ⟨#[115, 104, 108, 101, 120, 46, 103, 101, 116, 95, 116, 111, 107, 101, 110]⟩ 1147, .str ⟨#[47, 99, 108, 97, 105, 109, 47, 99, 117, 116, 46, 112, 121]⟩ 1148, .int 544 0, .int 1 0, .int 0 0, .int 0 0, .int 3 0, .ref 687, .bool true, .int 318 0, .ref 688, .none, .ref 689, .ref 690, .ref 691, .int 1155 0, .int 544 0, .str ⟨#[47, 99, 108, 97, 105, 109, 47, 99, 117, 116, 46, 112, 121]⟩ 1156], #[]⟩
noncomputable def o693 (P : Params) : Obj := ⟨.type "function", none, .func { name := ⟨#[103, 101, 116, 95, 116, 111, 107, 101, 110]⟩, qualname := ⟨#[115, 104, 108, 101, 120, 46, 103, 101, 116, 95, 116, 111, 107, 101, 110]⟩, params := fnP (stAt (clsB (stAt pw.main.body 23)) 5), body := .stmts (fnB (stAt (clsB (stAt pw.main.body 23)) 5)), scope := fnS (stAt (clsB (stAt pw.main.body 23)) 5), globals := 3, closure := [], defaults := .none, kwdefaults := .none, doc := .none, pyModule := .str ⟨#[99, 112, 121, 51, 49, 51, 46, 115, 104, 108, 101, 120]⟩ 1088, annotations := none, code := .ref 692, closureTuple := .none, builtins := 0 }, #[]⟩
noncomputable def o699 (P : Params) : Obj := ⟨.type "code", none, .fields #[.str ⟨#[114, 101, 97, 100, 95, 116, 111, 107, 101, 110]⟩ 1158, .str ⟨#[115, 104, 108, 101, 120, 46, 114, 101, 97, 100, 95, 116, 111, 107, 101, 110]⟩ 1159, .str ⟨#[47, 99, 108, 97, 105, 109, 47, 99, 117, 116, 46, 112, 121]⟩ 1160, .int 571 0, .int 1 0, .int 0 0, .int 0 0, .int 3 0, .ref 694, .bool true, .int 318 0, .ref 695, .none, .ref 696, .ref 697, .ref 698, .int 1166 0, .int 571 0, .str ⟨#[47, 99, 108, 97, 105, 109, 47, 99, 117, 116, 46, 112, 121]⟩ 1167], #[]⟩
noncomputable def o700 (P : Params) : Obj := ⟨.type "function", none, .func { name := ⟨#[114, 101, 97, 100, 95, 116, 111, 107, 101, 110]⟩, qualname := ⟨#[115, 104, 108, 101, 120, 46, 114, 101, 97, 100, 95, 116, 111, 107, 101, 110]⟩, params := fnP (stAt (clsB (stAt pw.main.body 23)) 6), body := .stmts (fnB (stAt (clsB (stAt pw.main.body 23)) 6)), scope := fnS (stAt (clsB (stAt pw.main.body 23)) 6), globals := 3, closure := [], defaults := .none, kwdefaults := .none, doc := .none, pyModule := .str ⟨#[99, 112, 121, 51, 49, 51, 46, 115, 104, 108, 101, 120]⟩ 1088, annotations := none, code := .ref 699, closureTuple := .none, builtins := 0 }, #[]⟩
noncomputable def o721 (P : Params) : Obj := ⟨.type "code", none, .fields #[.str ⟨#[95, 95, 105, 116, 101, 114, 95, 95]⟩ 1186, .str ⟨#[115, 104, 108, 101, 120, 46, 95, 95, 105, 116, 101, 114, 95, 95]⟩ 1187, .str ⟨#[47, 99, 108, 97, 105, 109, 47, 99, 117, 116, 46, 112, 121]⟩ 1188, .int 718 0, .int 1 0, .int 0 0, .int 0 0, .int 3 0, .ref 716, .bool true, .int 318 0, .ref 717, .none, .ref 718, .ref 719, .ref 720, .int 1190 0, .int 718 0, .str ⟨#[47, 99, 108, 97, 105, 109, 47, 99, 117, 116, 46, 112, 121]⟩ 1191], #[]⟩
noncomputable def o722 (P : Params) : Obj := ⟨.type "function", none, .func { name := ⟨#[95, 95, 105, 116, 101, 114, 95, 95]⟩, qualname := ⟨#[115, 104, 108, 101, 120, 46, 95, 95, 105, 116, 101, 114, 95, 95]⟩, params := fnP (stAt (clsB (stAt pw.main.body 23)) 9), body := .stmts (fnB (stAt (clsB (stAt pw.main.body 23)) 9)), scope := fnS (stAt (clsB (stAt pw.main.body 23)) 9), globals := 3, closure := [], defaults := .none, kwdefaults := .none, doc := .none, pyModule := .str ⟨#[99, 112, 121, 51, 49, 51, 46, 115, 104, 108, 101, 120]⟩ 1088, annotations := none, code := .ref 721, closureTuple := .none, builtins := 0 }, #[]⟩
noncomputable def o728 (P : Params) : Obj := ⟨.type "code", none, .fields #[.str ⟨#[95, 95, 110, 101, 120, 116, 95, 95]⟩ 1193, .str ⟨#[115, 104, 108, 101, 120, 46, 95, 95, 110, 101, 120, 116, 95, 95]⟩ 1194, .str ⟨#[47, 99, 108, 97, 105, 109, 47, 99, 117, 116, 46, 112, 121]⟩ 1195, .int 721 0, .int 1 0, .int 0 0, .int 0 0, .int 3 0, .ref 723, .bool true, .int 318 0, .ref 724, .none, .ref 725, .ref 726, .ref 727, .int 1198 0, .int 721 0, .str ⟨#[47, 99, 108, 97, 105, 109, 47, 99, 117, 116, 46, 112, 121]⟩ 1199], #[]⟩
noncomputable def o729 (P : Params) : Obj := ⟨.type "function", none, .func { name := ⟨#[95, 95, 110, 101, 120, 116, 95, 95]⟩, qualname := ⟨#[115, 104, 108, 101, 120, 46, 95, 95, 110, 101, 120, 116, 95, 95]⟩, params := fnP (stAt (clsB (stAt pw.main.body 23)) 10), body := .stmts (fnB (stAt (clsB (stAt pw.main.body 23)) 10)), scope := fnS (stAt (clsB (stAt pw.main.body 23)) 10), globals := 3, closure := [], defaults := .none, kwdefaults := .none, doc := .none, pyModule := .str ⟨#[99, 112, 121, 51, 49, 51, 46, 115, 104, 108, 101, 120]⟩ 1088, annotations := none, code := .ref 728, closureTuple := .none, builtins := 0 }, #[]⟩
noncomputable def o731 (P : Params) : Obj := ⟨.type "dict", none, .dict #[en P ⟨#[95, 95, 109, 111, 100, 117, 108, 101, 95, 95]⟩ 1097 (.str ⟨#[99, 112, 121, 51, 49, 51, 46, 115, 104, 108, 101, 120]⟩ 1088),
    en P ⟨#[95, 95, 102, 105, 114, 115, 116, 108, 105, 110, 101, 110, 111, 95, 95]⟩ 1101 (.int 474 1100),
    en P ⟨#[95, 95, 105, 110, 105, 116, 95, 95]⟩ 1113 (.ref 656),
    en P ⟨#[112, 117, 110, 99, 116, 117, 97, 116, 105, 111, 110, 95, 99, 104, 97, 114, 115]⟩ 1121 (.ref 664),
    en P ⟨#[112, 117, 115, 104, 95, 116, 111, 107, 101, 110]⟩ 1129 (.ref 671),
    en P ⟨#[112, 117, 115, 104, 95, 115, 111, 117, 114, 99, 101]⟩ 1138 (.ref 679),
    en P ⟨#[112, 111, 112, 95, 115, 111, 117, 114, 99, 101]⟩ 1145 (.ref 686),
    en P ⟨#[103, 101, 116, 95, 116, 111, 107, 101, 110]⟩ 1157 (.ref 693),
    en P ⟨#[114, 101, 97, 100, 95, 116, 111, 107, 101, 110]⟩ 1168 (.ref 700),
    en P ⟨#[115, 111, 117, 114, 99, 101, 104, 111, 111, 107]⟩ 1176 (.ref 707),
    en P ⟨#[101, 114, 114, 111, 114, 95, 108, 101, 97, 100, 101, 114]⟩ 1185 (.ref 715),
    en P ⟨#[95, 95, 105, 116, 101, 114, 95, 95]⟩ 1192 (.ref 722),
    en P ⟨#[95, 95, 110, 101, 120, 116, 95, 95]⟩ 1200 (.ref 729),
    en P ⟨#[95, 95, 115, 116, 97, 116, 105, 99, 95, 97, 116, 116, 114, 105, 98, 117, 116, 101, 115, 95, 95]⟩ 1221 (.ref 730),
    en P ⟨#[95, 95, 100, 105, 99, 116, 95, 95]⟩ 1223 (.ref 733),
    en P ⟨#[95, 95, 119, 101, 97, 107, 114, 101, 102, 95, 95]⟩ 1225 (.ref 734),
    en P ⟨#[95, 95, 100, 111, 99, 95, 95]⟩ 1226 (.none)] 4, #[]⟩
noncomputable def o732 (P : Params) : Obj := ⟨.type "type", none, .cls { name := ⟨#[115, 104, 108, 101, 120]⟩, bases := [.type "object"], mro := [.ref 732, .type "object"], ns := 731, qualname := ⟨#[115, 104, 108, 101, 120]⟩, hasDict := true, slotNames := [], subclasses := [], abstract := false, collection := none, hasDel := false }, #[none, none, (some (.str ⟨#[115, 104, 108, 101, 120]⟩ 1090)), (some (.str ⟨#[115, 104, 108, 101, 120]⟩ 1098)), (some (.builtin "object.__new__")), (some (.bool true))]⟩
noncomputable def o737 (P : Params) : Obj := ⟨.type "tuple", none, .seq #[.bool false, .bool true] 0, #[]⟩
noncomputable def o743 (P : Params) : Obj := ⟨.type "code", none, .fields #[.str ⟨#[115, 112, 108, 105, 116]⟩ 1229, .str ⟨#[115, 112, 108, 105, 116]⟩ 1230, .str ⟨#[47, 99, 108, 97, 105, 109, 47, 99, 117, 116, 46, 112, 121]⟩ 1231, .int 726 0, .int 3 0, .int 0 0, .int 0 0, .int 3 0, .ref 738, .bool true, .int 318 0, .ref 739, .none, .ref 740, .ref 741, .ref 742, .int 1236 0, .int 726 0, .str ⟨#[47, 99, 108, 97, 105, 109, 47, 99, 117, 116, 46, 112, 121]⟩ 1237], #[]⟩
noncomputable def o744 (P : Params) : Obj := ⟨.type "function", none, .func { name := ⟨#[115, 112, 108, 105, 116]⟩, qualname := ⟨#[115, 112, 108, 105, 116]⟩, params := fnP (stAt pw.main.body 24), body := .stmts (fnB (stAt pw.main.body 24)), scope := fnS (stAt pw.main.body 24), globals := 3, closure := [], defaults := .ref 737, kwdefaults := .none, doc := .none, pyModule := .str ⟨#[99, 112, 121, 51, 49, 51, 46, 115, 104, 108, 101, 120]⟩ 1088, annotations := none, code := .ref 743, closureTuple := .none, builtins := 0 }, #[]⟩
noncomputable def o745 (P : Params) : Obj := ⟨.type "builtin_function_or_method", none, .fields #[.builtin "re.Pattern.search", .ref 49], #[]⟩
noncomputable def o751 (P : Params) : Obj := ⟨.type "code", none, .fields #[.str ⟨#[113, 117, 111, 116, 101]⟩ 1241, .str ⟨#[113, 117, 111, 116, 101]⟩ 1242, .str ⟨#[47, 99, 108, 97, 105, 109, 47, 99, 117, 116, 46, 112, 121]⟩ 1243, .int 735 0, .int 1 0, .int 0 0, .int 0 0, .int 3 0, .ref 746, .bool true, .int 318 0, .ref 747, .none, .ref 748, .ref 749, .ref 750, .int 1245 0, .int 735 0, .str ⟨#[47, 99, 108, 97, 105, 109, 47, 99, 117, 116, 46, 112, 121]⟩ 1246], #[]⟩
noncomputable def o752 (P : Params) : Obj := ⟨.type "function", none, .func { name := ⟨#[113, 117, 111, 116, 101]⟩, qualname := ⟨#[113, 117, 111, 116, 101]⟩, params := fnP (stAt pw.main.body 26), body := .stmts (fnB (stAt pw.main.body 26)), scope := fnS (stAt pw.main.body 26), globals := 3, closure := [], defaults := .none, kwdefaults := .none, doc := .none, pyModule := .str ⟨#[99, 112, 121, 51, 49, 51, 46, 115, 104, 108, 101, 120]⟩ 1088, annotations := none, code := .ref 751, closureTuple := .none, builtins := 0 }, #[]⟩
noncomputable def o824 (P : Params) : Obj := ⟨.type "code", none, .fields #[.str ⟨#[102, 115, 112, 97, 116, 104]⟩ 1337, .str ⟨#[102, 115, 112, 97, 116, 104]⟩ 1338, .str ⟨#[47, 99, 108, 97, 105, 109, 47, 99, 117, 116, 46, 112, 121]⟩ 1339, .int 772 0, .int 1 0, .int 0 0, .int 0 0, .int 3 0, .ref 819, .bool true, .int 318 0, .ref 820, .none, .ref 821, .ref 822, .ref 823, .int 1344 0, .int 772 0, .str ⟨#[47, 99, 108, 97, 105, 109, 47, 99, 117, 116, 46, 112, 121]⟩ 1345], #[]⟩
noncomputable def o825 (P : Params) : Obj := ⟨.type "function", none, .func { name := ⟨#[102, 115, 112, 97, 116, 104]⟩, qualname := ⟨#[102, 115, 112, 97, 116, 104]⟩, params := fnP (stAt pw.main.body 35), body := .stmts (fnB (stAt pw.main.body 35)), scope := fnS (stAt pw.main.body 35), globals := 3, closure := [], defaults := .none, kwdefaults := .none, doc := .none, pyModule := .str ⟨#[111, 115]⟩ 1335, annotations := none, code := .ref 824, closureTuple := .none, builtins := 0 }, #[]⟩
noncomputable def o838 (P : Params) : Obj := ⟨.type "code", none, .fields #[.str ⟨#[95, 103, 101, 116, 95, 115, 101, 112]⟩ 1363, .str ⟨#[95, 103, 101, 116, 95, 115, 101, 112]⟩ 1364, .str ⟨#[47, 99, 108, 97, 105, 109, 47, 99, 117, 116, 46, 112, 121]⟩ 1365, .int 802 0, .int 1 0, .int 0 0, .int 0 0, .int 3 0, .ref 833, .bool true, .int 318 0, .ref 834, .none, .ref 835, .ref 836, .ref 837, .int 1367 0, .int 802 0, .str ⟨#[47, 99, 108, 97, 105, 109, 47, 99, 117, 116, 46, 112, 121]⟩ 1368], #[]⟩
noncomputable def o839 (P : Params) : Obj := ⟨.type "function", none, .func { name := ⟨#[95, 103, 101, 116, 95, 115, 101, 112]⟩, qualname := ⟨#[95, 103, 101, 116, 95, 115, 101, 112]⟩, params := fnP (stAt pw.main.body 40), body := .stmts (fnB (stAt pw.main.body 40)), scope := fnS (stAt pw.main.body 40), globals := 3, closure := [], defaults := .none, kwdefaults := .none, doc := .none, pyModule := .str ⟨#[99, 112, 121, 51, 49, 51, 46, 112, 111, 115, 105, 120, 112, 97, 116, 104]⟩ 1361, annotations := none, code := .ref 838, closureTuple := .none, builtins := 0 }, #[]⟩
noncomputable def o845 (P : Params) : Obj := ⟨.type "code", none, .fields #[.str ⟨#[106, 111, 105, 110]⟩ 1370, .str ⟨#[106, 111, 105, 110]⟩ 1371, .str ⟨#[47, 99, 108, 97, 105, 109, 47, 99, 117, 116, 46, 112, 121]⟩ 1372, .int 807 0, .int 1 0, .int 0 0, .int 0 0, .int 7 0, .ref 840, .bool true, .int 318 0, .ref 841, .none, .ref 842, .ref 843, .ref 844, .int 1378 0, .int 807 0, .str ⟨#[47, 99, 108, 97, 105, 109, 47, 99, 117, 116, 46, 112, 121]⟩ 1379], #[]⟩
noncomputable def o846 (P : Params) : Obj := ⟨.type "function", none, .func { name := ⟨#[106, 111, 105, 110]⟩, qualname := ⟨#[106, 111, 105, 110]⟩, params := fnP (stAt pw.main.body 41), body := .stmts (fnB (stAt pw.main.body 41)), scope := fnS (stAt pw.main.body 41), globals := 3, closure := [], defaults := .none, kwdefaults := .none, doc := .none, pyModule := .str ⟨#[99, 112, 121, 51, 49, 51, 46, 112, 111, 115, 105, 120, 112, 97, 116, 104]⟩ 1361, annotations := none, code := .ref 845, closureTuple := .none, builtins := 0 }, #[]⟩
noncomputable def o852 (P : Params) : Obj := ⟨.type "code", none, .fields #[.str ⟨#[115, 112, 108, 105, 116, 114, 111, 111, 116]⟩ 1382, .str ⟨#[115, 112, 108, 105, 116, 114, 111, 111, 116]⟩ 1383, .str ⟨#[47, 99, 108, 97, 105, 109, 47, 99, 117, 116, 46, 112, 121]⟩ 1384, .int 825 0, .int 1 0, .int 0 0, .int 0 0, .int 3 0, .ref 847, .bool true, .int 318 0, .ref 848, .none, .ref 849, .ref 850, .ref 851, .int 1388 0, .int 825 0, .str ⟨#[47, 99, 108, 97, 105, 109, 47, 99, 117, 116, 46, 112, 121]⟩ 1389], #[]⟩
noncomputable def o853 (P : Params) : Obj := ⟨.type "function", none, .func { name := ⟨#[115, 112, 108, 105, 116, 114, 111, 111, 116]⟩, qualname := ⟨#[115, 112, 108, 105, 116, 114, 111, 111, 116]⟩, params := fnP (stAt pw.main.body 43), body := .stmts (fnB (stAt pw.main.body 43)), scope := fnS (stAt pw.main.body 43), globals := 3, closure := [], defaults := .none, kwdefaults := .none, doc := .none, pyModule := .str ⟨#[99, 112, 121, 51, 49, 51, 46, 112, 111, 115, 105, 120, 112, 97, 116, 104]⟩ 1361, annotations := none, code := .ref 852, closureTuple := .none, builtins := 0 }, #[]⟩
noncomputable def o859 (P : Params) : Obj := ⟨.type "code", none, .fields #[.str ⟨#[110, 111, 114, 109, 112, 97, 116, 104]⟩ 1391, .str ⟨#[110, 111, 114, 109, 112, 97, 116, 104]⟩ 1392, .str ⟨#[47, 99, 108, 97, 105, 109, 47, 99, 117, 116, 46, 112, 121]⟩ 1393, .int 839 0, .int 1 0, .int 0 0, .int 0 0, .int 3 0, .ref 854, .bool true, .int 318 0, .ref 855, .none, .ref 856, .ref 857, .ref 858, .int 1403 0, .int 839 0, .str ⟨#[47, 99, 108, 97, 105, 109, 47, 99, 117, 116, 46, 112, 121]⟩ 1404], #[]⟩
noncomputable def o860 (P : Params) : Obj := ⟨.type "function", none, .func { name := ⟨#[110, 111, 114, 109, 112, 97, 116, 104]⟩, qualname := ⟨#[110, 111, 114, 109, 112, 97, 116, 104]⟩, params := fnP (stAt pw.main.body 44), body := .stmts (fnB (stAt pw.main.body 44)), scope := fnS (stAt pw.main.body 44), globals := 3, closure := [], defaults := .none, kwdefaults := .none, doc := .none, pyModule := .str ⟨#[99, 112, 121, 51, 49, 51, 46, 112, 111, 115, 105, 120, 112, 97, 116, 104]⟩ 1361, annotations := none, code := .ref 859, closureTuple := .none, builtins := 0 }, #[]⟩
noncomputable def o873 (P : Params) : Obj := ⟨.type "code", none, .fields #[.str ⟨#[95, 101, 115, 99, 97, 112, 101, 95, 99, 100, 97, 116, 97]⟩ 1415, .str ⟨#[95, 101, 115, 99, 97, 112, 101, 95, 99, 100, 97, 116, 97]⟩ 1416, .str ⟨#[47, 99, 108, 97, 105, 109, 47, 99, 117, 116, 46, 112, 121]⟩ 1417, .int 867 0, .int 1 0, .int 0 0, .int 0 0, .int 3 0, .ref 868, .bool true, .int 318 0, .ref 869, .none, .ref 870, .ref 871, .ref 872, .int 1419 0, .int 867 0, .str ⟨#[47, 99, 108, 97, 105, 109, 47, 99, 117, 116, 46, 112, 121]⟩ 1420], #[]⟩
noncomputable def o874 (P : Params) : Obj := ⟨.type "function", none, .func { name := ⟨#[95, 101, 115, 99, 97, 112, 101, 95, 99, 100, 97, 116, 97]⟩, qualname := ⟨#[95, 101, 115, 99, 97, 112, 101, 95, 99, 100, 97, 116, 97]⟩, params := fnP (stAt pw.main.body 47), body := .stmts (fnB (stAt pw.main.body 47)), scope := fnS (stAt pw.main.body 47), globals := 3, closure := [], defaults := .none, kwdefaults := .none, doc := .none, pyModule := .str ⟨#[99, 112, 121, 51, 49, 51, 46, 120, 109, 108, 46, 101, 116, 114, 101, 101, 46, 69, 108, 101, 109, 101, 110, 116, 84, 114, 101, 101]⟩ 1406, annotations := none, code := .ref 873, closureTuple := .none, builtins := 0 }, #[]⟩
noncomputable def o880 (P : Params) : Obj := ⟨.type "code", none, .fields #[.str ⟨#[95, 101, 115, 99, 97, 112, 101, 95, 97, 116, 116, 114, 105, 98]⟩ 1422, .str ⟨#[95, 101, 115, 99, 97, 112, 101, 95, 97, 116, 116, 114, 105, 98]⟩ 1423, .str ⟨#[47, 99, 108, 97, 105, 109, 47, 99, 117, 116, 46, 112, 121]⟩ 1424, .int 878 0, .int 1 0, .int 0 0, .int 0 0, .int 3 0, .ref 875, .bool true, .int 318 0, .ref 876, .none, .ref 877, .ref 878, .ref 879, .int 1426 0, .int 878 0, .str ⟨#[47, 99, 108, 97, 105, 109, 47, 99, 117, 116, 46, 112, 121]⟩ 1427], #[]⟩
noncomputable def o881 (P : Params) : Obj := ⟨.type "function", none, .func { name := ⟨#[95, 101, 115, 99, 97, 112, 101, 95, 97, 116, 116, 114, 105, 98]⟩, qualname := ⟨#[95, 101, 115, 99, 97, 112, 101, 95, 97, 116, 116, 114, 105, 98]⟩, params := fnP (stAt pw.main.body 48), body := .stmts (fnB (stAt pw.main.body 48)), scope := fnS (stAt pw.main.body 48), globals := 3, closure := [], defaults := .none, kwdefaults := .none, doc := .none, pyModule := .str ⟨#[99, 112, 121, 51, 49, 51, 46, 120, 109, 108, 46, 101, 116, 114, 101, 101, 46, 69, 108, 101, 109, 101, 110, 116, 84, 114, 101, 101]⟩ 1406, annotations := none, code := .ref 880, closureTuple := .none, builtins := 0 }, #[]⟩
noncomputable def o887 (P : Params) : Obj := ⟨.type "code", none, .fields #[.str ⟨#[95, 101, 115, 99, 97, 112, 101, 95, 97, 116, 116, 114, 105, 98, 95, 104, 116, 109, 108]⟩ 1429, .str ⟨#[95, 101, 115, 99, 97, 112, 101, 95, 97, 116, 116, 114, 105, 98, 95, 104, 116, 109, 108]⟩ 1430, .str ⟨#[47, 99, 108, 97, 105, 109, 47, 99, 117, 116, 46, 112, 121]⟩ 1431, .int 897 0, .int 1 0, .int 0 0, .int 0 0, .int 3 0, .ref 882, .bool true, .int 318 0, .ref 883, .none, .ref 884, .ref 885, .ref 886, .int 1433 0, .int 897 0, .str ⟨#[47, 99, 108, 97, 105, 109, 47, 99, 117, 116, 46, 112, 121]⟩ 1434], #[]⟩
noncomputable def o888 (P : Params) : Obj := ⟨.type "function", none, .func { name := ⟨#[95, 101, 115, 99, 97, 112, 101, 95, 97, 116, 116, 114, 105, 98, 95, 104, 116, 109, 108]⟩, qualname := ⟨#[95, 101, 115, 99, 97, 112, 101, 95, 97, 116, 116, 114, 105, 98, 95, 104, 116, 109, 108]⟩, params := fnP (stAt pw.main.body 49), body := .stmts (fnB (stAt pw.main.body 49)), scope := fnS (stAt pw.main.body 49), globals := 3, closure := [], defaults := .none, kwdefaults := .none, doc := .none, pyModule := .str ⟨#[99, 112, 121, 51, 49, 51, 46, 120, 109, 108, 46, 101, 116, 114, 101, 101, 46, 69, 108, 101, 109, 101, 110, 116, 84, 114, 101, 101]⟩ 1406, annotations := none, code := .ref 887, closureTuple := .none, builtins := 0 }, #[]⟩
noncomputable def o894 (P : Params) : Obj := ⟨.type "code", none, .fields #[.str ⟨#[95, 101, 115, 99, 97, 112, 101, 95, 99, 100, 97, 116, 97, 95, 99, 49, 52, 110]⟩ 1436, .str ⟨#[95, 101, 115, 99, 97, 112, 101, 95, 99, 100, 97, 116, 97, 95, 99, 49, 52, 110]⟩ 1437, .str ⟨#[47, 99, 108, 97, 105, 109, 47, 99, 117, 116, 46, 112, 121]⟩ 1438, .int 908 0, .int 1 0, .int 0 0, .int 0 0, .int 3 0, .ref 889, .bool true, .int 318 0, .ref 890, .none, .ref 891, .ref 892, .ref 893, .int 1440 0, .int 908 0, .str ⟨#[47, 99, 108, 97, 105, 109, 47, 99, 117, 116, 46, 112, 121]⟩ 1441], #[]⟩
noncomputable def o895 (P : Params) : Obj := ⟨.type "function", none, .func { name := ⟨#[95, 101, 115, 99, 97, 112, 101, 95, 99, 100, 97, 116, 97, 95, 99, 49, 52, 110]⟩, qualname := ⟨#[95, 101, 115, 99, 97, 112, 101, 95, 99, 100, 97, 116, 97, 95, 99, 49, 52, 110]⟩, params := fnP (stAt pw.main.body 50), body := .stmts (fnB (stAt pw.main.body 50)), scope := fnS (stAt pw.main.body 50), globals := 3, closure := [], defaults := .none, kwdefaults := .none, doc := .none, pyModule := .str ⟨#[99, 112, 121, 51, 49, 51, 46, 120, 109, 108, 46, 101, 116, 114, 101, 101, 46, 69, 108, 101, 109, 101, 110, 116, 84, 114, 101, 101]⟩ 1406, annotations := none, code := .ref 894, closureTuple := .none, builtins := 0 }, #[]⟩
noncomputable def o901 (P : Params) : Obj := ⟨.type "code", none, .fields #[.str ⟨#[95, 101, 115, 99, 97, 112, 101, 95, 97, 116, 116, 114, 105, 98, 95, 99, 49, 52, 110]⟩ 1443, .str ⟨#[95, 101, 115, 99, 97, 112, 101, 95, 97, 116, 116, 114, 105, 98, 95, 99, 49, 52, 110]⟩ 1444, .str ⟨#[47, 99, 108, 97, 105, 109, 47, 99, 117, 116, 46, 112, 121]⟩ 1445, .int 921 0, .int 1 0, .int 0 0, .int 0 0, .int 3 0, .ref 896, .bool true, .int 318 0, .ref 897, .none, .ref 898, .ref 899, .ref 900, .int 1447 0, .int 921 0, .str ⟨#[47, 99, 108, 97, 105, 109, 47, 99, 117, 116, 46, 112, 121]⟩ 1448], #[]⟩
noncomputable def o902 (P : Params) : Obj := ⟨.type "function", none, .func { name := ⟨#[95, 101, 115, 99, 97, 112, 101, 95, 97, 116, 116, 114, 105, 98, 95, 99, 49, 52, 110]⟩, qualname := ⟨#[95, 101, 115, 99, 97, 112, 101, 95, 97, 116, 116, 114, 105, 98, 95, 99, 49, 52, 110]⟩, params := fnP (stAt pw.main.body 51), body := .stmts (fnB (stAt pw.main.body 51)), scope := fnS (stAt pw.main.body 51), globals := 3, closure := [], defaults := .none, kwdefaults := .none, doc := .none, pyModule := .str ⟨#[99, 112, 121, 51, 49, 51, 46, 120, 109, 108, 46, 101, 116, 114, 101, 101, 46, 69, 108, 101, 109, 101, 110, 116, 84, 114, 101, 101]⟩ 1406, annotations := none, code := .ref 901, closureTuple := .none, builtins := 0 }, #[]⟩
noncomputable def o908 (P : Params) : Obj := ⟨.type "code", none, .fields #[.str ⟨#[95, 108, 97, 119, 95, 115, 104, 97, 112, 101]⟩ 1452, .str ⟨#[95, 108, 97, 119, 95, 115, 104, 97, 112, 101]⟩ 1453, .str ⟨#[47, 99, 108, 97, 105, 109, 47, 99, 117, 116, 46, 112, 121]⟩ 1454, .int 939 0, .int 2 0, .int 0 0, .int 0 0, .int 3 0, .ref 903, .bool true, .int 318 0, .ref 904, .none, .ref 905, .ref 906, .ref 907, .int 1460 0, .int 939 0, .str ⟨#[47, 99, 108, 97, 105, 109, 47, 99, 117, 116, 46, 112, 121]⟩ 1461], #[]⟩
noncomputable def o909 (P : Params) : Obj := ⟨.type "function", none, .func { name := ⟨#[95, 108, 97, 119, 95, 115, 104, 97, 112, 101]⟩, qualname := ⟨#[95, 108, 97, 119, 95, 115, 104, 97, 112, 101]⟩, params := fnP (stAt pw.main.body 53), body := .stmts (fnB (stAt pw.main.body 53)), scope := fnS (stAt pw.main.body 53), globals := 3, closure := [], defaults := .none, kwdefaults := .none, doc := .none, pyModule := .str ⟨#[108, 97, 119, 95, 114, 116, 48, 49, 49, 50, 95, 48, 49]⟩ 1450, annotations := none, code := .ref 908, closureTuple := .none, builtins := 0 }, #[]⟩
noncomputable def o913 (P : Params) : Obj := ⟨.type "code", none, .fields #[.str ⟨#[95, 108, 97, 119, 95, 116, 111, 108, 100]⟩ 1463, .str ⟨#[95, 108, 97, 119, 95, 116, 111, 108, 100]⟩ 1464, .str ⟨#[47, 99, 108, 97, 105, 109, 47, 99, 117, 116, 46, 112, 121]⟩ 1465, .int 948 0, .int 2 0, .int 0 0, .int 0 0, .int 3 0, .ref 910, .bool true, .int 318 0, .ref 911, .none, .none, .none, .ref 912, .int 1466 0, .int 948 0, .str ⟨#[47, 99, 108, 97, 105, 109, 47, 99, 117, 116, 46, 112, 121]⟩ 1467], #[]⟩
noncomputable def o914 (P : Params) : Obj := ⟨.type "function", none, .func { name := ⟨#[95, 108, 97, 119, 95, 116, 111, 108, 100]⟩, qualname := ⟨#[95, 108, 97, 119, 95, 116, 111, 108, 100]⟩, params := fnP (stAt pw.main.body 54), body := .stmts (fnB (stAt pw.main.body 54)), scope := fnS (stAt pw.main.body 54), globals := 3, closure := [], defaults := .none, kwdefaults := .none, doc := .none, pyModule := .str ⟨#[108, 97, 119, 95, 114, 116, 48, 49, 49, 50, 95, 48, 49]⟩ 1450, annotations := none, code := .ref 913, closureTuple := .none, builtins := 0 }, #[]⟩
noncomputable def o918 (P : Params) : Obj := ⟨.type "code", none, .fields #[.str ⟨#[95, 108, 97, 119, 95, 109, 97, 114, 107, 115]⟩ 1469, .str ⟨#[95, 108, 97, 119, 95, 109, 97, 114, 107, 115]⟩ 1470, .str ⟨#[47, 99, 108, 97, 105, 109, 47, 99, 117, 116, 46, 112, 121]⟩ 1471, .int 959 0, .int 2 0, .int 0 0, .int 0 0, .int 3 0, .ref 915, .bool true, .int 318 0, .ref 916, .none, .none, .none, .ref 917, .int 1472 0, .int 959 0, .str ⟨#[47, 99, 108, 97, 105, 109, 47, 99, 117, 116, 46, 112, 121]⟩ 1473], #[]⟩
noncomputable def o919 (P : Params) : Obj := ⟨.type "function", none, .func { name := ⟨#[95, 108, 97, 119, 95, 109, 97, 114, 107, 115]⟩, qualname := ⟨#[95, 108, 97, 119, 95, 109, 97, 114, 107, 115]⟩, params := fnP (stAt pw.main.body 55), body := .stmts (fnB (stAt pw.main.body 55)), scope := fnS (stAt pw.main.body 55), globals := 3, closure := [], defaults := .none, kwdefaults := .none, doc := .none, pyModule := .str ⟨#[108, 97, 119, 95, 114, 116, 48, 49, 49, 50, 95, 48, 49]⟩ 1450, annotations := none, code := .ref 918, closureTuple := .none, builtins := 0 }, #[]⟩
noncomputable def o925 (P : Params) : Obj := ⟨.type "code", none, .fields #[.str ⟨#[95, 108, 97, 119, 95, 114, 111, 119]⟩ 1475, .str ⟨#[95, 108, 97, 119, 95, 114, 111, 119]⟩ 1476, .str ⟨#[47, 99, 108, 97, 105, 109, 47, 99, 117, 116, 46, 112, 121]⟩ 1477, .int 965 0, .int 1 0, .int 0 0, .int 0 0, .int 3 0, .ref 920, .bool true, .int 318 0, .ref 921, .none, .ref 922, .ref 923, .ref 924, .int 1481 0, .int 965 0, .str ⟨#[47, 99, 108, 97, 105, 109, 47, 99, 117, 116, 46, 112, 121]⟩ 1482], #[]⟩
noncomputable def o926 (P : Params) : Obj := ⟨.type "function", none, .func { name := ⟨#[95, 108, 97, 119, 95, 114, 111, 119]⟩, qualname := ⟨#[95, 108, 97, 119, 95, 114, 111, 119]⟩, params := fnP (stAt pw.main.body 56), body := .stmts (fnB (stAt pw.main.body 56)), scope := fnS (stAt pw.main.body 56), globals := 3, closure := [], defaults := .none, kwdefaults := .none, doc := .none, pyModule := .str ⟨#[108, 97, 119, 95, 114, 116, 48, 49, 49, 50, 95, 48, 49]⟩ 1450, annotations := none, code := .ref 925, closureTuple := .none, builtins := 0 }, #[]⟩
noncomputable def o930 (P : Params) : Obj := ⟨.type "code", none, .fields #[.str ⟨#[108, 97, 119]⟩ 1484, .str ⟨#[108, 97, 119]⟩ 1485, .str ⟨#[47, 99, 108, 97, 105, 109, 47, 99, 117, 116, 46, 112, 121]⟩ 1486, .int 973 0, .int 1 0, .int 0 0, .int 0 0, .int 3 0, .ref 927, .bool true, .int 318 0, .ref 928, .none, .none, .none, .ref 929, .int 1487 0, .int 973 0, .str ⟨#[47, 99, 108, 97, 105, 109, 47, 99, 117, 116, 46, 112, 121]⟩ 1488], #[]⟩
noncomputable def o931 (P : Params) : Obj := ⟨.type "function", none, .func { name := ⟨#[108, 97, 119]⟩, qualname := ⟨#[108, 97, 119]⟩, params := fnP (stAt pw.main.body 57), body := .stmts (fnB (stAt pw.main.body 57)), scope := fnS (stAt pw.main.body 57), globals := 3, closure := [], defaults := .none, kwdefaults := .none, doc := .none, pyModule := .str ⟨#[108, 97, 119, 95, 114, 116, 48, 49, 49, 50, 95, 48, 49]⟩ 1450, annotations := none, code := .ref 930, closureTuple := .none, builtins := 0 }, #[]⟩
noncomputable def K (P : Params) : List (Addr × Obj) := [(0, o0 P), (2, o2 P), (3, o3 P), (48, o48 P), (49, o49 P), (62, o62 P), (63, o63 P), (89, o89 P), (90, o90 P), (92, o92 P), (93, o93 P), (94, o94 P), (119, o119 P), (120, o120 P), (350, o350 P), (360, o360 P), (366, o366 P), (367, o367 P), (373, o373 P), (374, o374 P), (380, o380 P), (381, o381 P), (536, o536 P), (542, o542 P), (543, o543 P), (596, o596 P), (597, o597 P), (649, o649 P), (655, o655 P), (656, o656 P), (662, o662 P), (663, o663 P), (664, o664 P), (692, o692 P), (693, o693 P), (699, o699 P), (700, o700 P), (721, o721 P), (722, o722 P), (728, o728 P), (729, o729 P), (731, o731 P), (732, o732 P), (737, o737 P), (743, o743 P), (744, o744 P), (745, o745 P), (751, o751 P), (752, o752 P), (824, o824 P), (825, o825 P), (838, o838 P), (839, o839 P), (845, o845 P), (846, o846 P), (852, o852 P), (853, o853 P), (859, o859 P), (860, o860 P), (873, o873 P), (874, o874 P), (880, o880 P), (881, o881 P), (887, o887 P), (888, o888 P), (894, o894 P), (895, o895 P), (901, o901 P), (902, o902 P), (908, o908 P), (909, o909 P), (913, o913 P), (914, o914 P), (918, o918 P), (919, o919 P), (925, o925 P), (926, o926 P), (930, o930 P), (931, o931 P)]
noncomputable def ktop (P : Params) : KT := (.node (some (o0 P)) (.node none (.node (some (o3 P)) (.node none (.node none (.node none (.node (some (o63 P)) (.node none .nil (.node none .nil (.node (some (o895 P)) .nil .nil))) .nil) (.node none (.node none (.node none (.node (some (o543 P)) .nil .nil) .nil) .nil) .nil)) (.node none (.node none (.node none .nil (.node none (.node (some (o655 P)) .nil .nil) .nil)) .nil) (.node none .nil (.node none (.node (some (o367 P)) .nil .nil) (.node none (.node (some (o751 P)) .nil .nil) .nil))))) (.node none (.node none (.node none .nil (.node none (.node none .nil (.node (some (o839 P)) .nil .nil)) .nil)) (.node none .nil (.node none .nil (.node none (.node (some (o743 P)) .nil .nil) .nil)))) (.node none (.node none (.node none .nil (.node none (.node (some (o663 P)) .nil .nil) (.node (some (o919 P)) .nil .nil))) .nil) (.node (some (o119 P)) .nil (.node none (.node none .nil (.node (some (o887 P)) .nil .nil)) .nil))))) (.node none (.node none (.node none .nil (.node none (.node none .nil (.node none .nil (.node (some (o931 P)) .nil .nil))) .nil)) .nil) (.node none .nil (.node none (.node none .nil (.node none (.node none .nil (.node (some (o859 P)) .nil .nil)) (.node none (.node (some (o731 P)) .nil .nil) .nil))) (.node none (.node none .nil (.node none (.node (some (o699 P)) .nil .nil) .nil)) .nil))))) (.node none (.node none (.node none (.node none .nil (.node none .nil (.node none .nil (.node none (.node (some (o737 P)) .nil .nil) .nil)))) (.node (some (o49 P)) (.node none (.node none .nil (.node none .nil (.node (some (o913 P)) .nil .nil))) (.node none .nil (.node none (.node (some (o721 P)) .nil .nil) .nil))) (.node none .nil (.node none (.node none .nil (.node (some (o881 P)) .nil .nil)) .nil)))) (.node none (.node none (.node none (.node none .nil (.node none (.node (some (o649 P)) .nil .nil) .nil)) .nil) (.node none .nil (.node none (.node none .nil (.node (some (o873 P)) .nil .nil)) (.node none (.node (some (o745 P)) .nil .nil) .nil)))) (.node none (.node (some (o89 P)) .nil (.node none .nil (.node none (.node (some (o729 P)) .nil .nil) .nil))) (.node none (.node none (.node none .nil (.node (some (o825 P)) .nil .nil)) .nil) .nil)))) (.node none (.node none (.node none (.node none (.node none .nil (.node none .nil (.node (some (o901 P)) .nil .nil))) .nil) .nil) (.node none (.node none .nil (.node none (.node none (.node (some (o597 P)) .nil .nil) (.node (some (o853 P)) .nil .nil)) .nil)) (.node none (.node none .nil (.node none (.node (some (o693 P)) .nil .nil) .nil)) (.node none (.node (some (o373 P)) .nil .nil) .nil)))) (.node none (.node none (.node none (.node none .nil (.node none .nil (.node (some (o909 P)) .nil .nil))) (.node none (.node none .nil (.node (some (o845 P)) .nil .nil)) .nil)) .nil) (.node none (.node (some (o93 P)) (.node none .nil (.node none .nil (.node (some (o925 P)) .nil .nil))) .nil) (.node none .nil (.node none (.node (some (o381 P)) .nil .nil) .nil))))))) (.node (some (o2 P)) (.node none (.node none (.node none .nil (.node (some (o48 P)) (.node none (.node none .nil (.node none (.node (some (o656 P)) .nil .nil) .nil)) .nil) (.node none .nil (.node none (.node none .nil (.node (some (o880 P)) .nil .nil)) (.node none (.node (some (o752 P)) .nil .nil) .nil))))) (.node none (.node none .nil (.node none .nil (.node none (.node (some (o360 P)) .nil .nil) (.node none (.node (some (o744 P)) .nil .nil) .nil)))) (.node none (.node none (.node none (.node none (.node (some (o536 P)) .nil .nil) .nil) (.node none (.node (some (o664 P)) .nil .nil) .nil)) (.node none .nil (.node none (.node (some (o728 P)) .nil .nil) .nil))) (.node (some (o120 P)) (.node none (.node none .nil (.node (some (o824 P)) .nil .nil)) .nil) (.node none (.node none .nil (.node (some (o888 P)) .nil .nil)) .nil))))) (.node none (.node none .nil (.node none (.node none .nil (.node none (.node none (.node (some (o596 P)) .nil .nil) (.node (some (o852 P)) .nil .nil)) .nil)) (.node none (.node none .nil (.node none (.node (some (o692 P)) .nil .nil) .nil)) .nil))) (.node none (.node none (.node none (.node none .nil (.node none .nil (.node (some (o908 P)) .nil .nil))) .nil) .nil) (.node none (.node (some (o92 P)) .nil (.node none (.node none .nil (.node (some (o860 P)) .nil .nil)) (.node none (.node (some (o732 P)) .nil .nil) .nil))) (.node none (.node none .nil (.node none (.node (some (o700 P)) .nil .nil) .nil)) (.node none (.node (some (o380 P)) .nil .nil) .nil)))))) (.node none (.node none (.node none (.node none .nil (.node none (.node none .nil (.node none .nil (.node (some (o930 P)) .nil .nil))) .nil)) (.node none (.node none (.node none .nil (.node none .nil (.node (some (o914 P)) .nil .nil))) (.node none .nil (.node none (.node (some (o722 P)) .nil .nil) .nil))) .nil)) (.node none (.node none .nil (.node none .nil (.node none (.node none .nil (.node (some (o874 P)) .nil .nil)) .nil))) (.node none (.node (some (o90 P)) .nil .nil) .nil))) (.node none (.node none (.node none (.node none (.node none .nil (.node none .nil (.node (some (o902 P)) .nil .nil))) (.node none (.node none .nil (.node (some (o838 P)) .nil .nil)) .nil)) .nil) (.node none (.node none (.node none .nil (.node none (.node (some (o662 P)) .nil .nil) (.node (some (o918 P)) .nil .nil))) .nil) (.node none .nil (.node none (.node (some (o374 P)) .nil .nil) .nil)))) (.node none (.node none (.node none .nil (.node none (.node none .nil (.node (some (o846 P)) .nil .nil)) .nil)) (.node none .nil (.node none (.node (some (o366 P)) .nil .nil) .nil))) (.node (some (o62 P)) (.node (some (o94 P)) (.node none (.node none (.node (some (o542 P)) .nil .nil) .nil) (.node none .nil (.node (some (o926 P)) .nil .nil))) (.node none (.node (some (o350 P)) .nil .nil) .nil)) (.node none .nil (.node none (.node none .nil (.node (some (o894 P)) .nil .nil)) .nil))))))))
noncomputable def kAs : List Addr := [0, 2, 3, 48, 49, 62, 63, 89, 90, 92, 93, 94, 119, 120, 350, 360, 366, 367, 373, 374, 380, 381, 536, 542, 543, 596, 597, 649, 655, 656, 662, 663, 664, 692, 693, 699, 700, 721, 722, 728, 729, 731, 732, 737, 743, 744, 745, 751, 752, 824, 825, 838, 839, 845, 846, 852, 853, 859, 860, 873, 874, 880, 881, 887, 888, 894, 895, 901, 902, 908, 909, 913, 914, 918, 919, 925, 926, 930, 931]
end Mine
end
section
open PySem PySem.W PySem.W.X PyProof.Rows
set_option Elab.async false
set_option maxRecDepth 100000
namespace Mine
noncomputable def denF : Code → Sem Fin := PySem.W.Fast.tw11892475500146522536 PySem.W.Fast.tw14364793385576792824
theorem denF_eq : denote table = denF := by
  unfold denF
  rw [table_eq_tree, PySem.W.Fast.te11892475500146522536, PySem.W.Fast.te14364793385576792824]
noncomputable def entF (c : Code) : Sem Fin := PySem.W.R.bindR (PySem.W.Fast.tw15066281185411960212 0) fun _ => Sem.pure (.again c)
theorem entF_eq : (fun c => Sem.bind (enterFrame 0) fun _ => Sem.pure (.again c)) = entF := by
  funext c
  unfold entF
  rw [PySem.W.Fast.te15066281185411960212, PySem.W.R.bindR_eq]
noncomputable def roomF (m : Sem Fin) : Sem Fin := PySem.W.R.bindR (PySem.W.Fast.tw10648789137845014744 "comparison") fun _ => m
theorem roomF_eq : (fun m => Sem.bind (cRoom "comparison") fun _ => m) = roomF := by
  funext m
  unfold roomF
  rw [PySem.W.Fast.te10648789137845014744, PySem.W.R.bindR_eq]
noncomputable abbrev quietF : Code → Bool := PySem.W.ZFast.zw17772548960776305114
theorem quietF_eq : Code.quiet = quietF := PySem.W.ZFast.ze17772548960776305114
noncomputable def wF (w : World) (b c : Bool) : World := { w with params := { w.params with followText := fun s => match Nat.beq (PySem.code s) 10139888712337904147300001983332972444938612 with
  | true => b
  | false => match Nat.beq (PySem.code s) 2510650655181157320538776789020469319833841985448949215332 with
    | true => c
    | false => w.params.followText s } }
theorem code_r1 : PySem.code "special-get-raises" = 10139888712337904147300001983332972444938612 := by decide +kernel
theorem code_r2 : PySem.code "comprehension-iter-twice" = 2510650655181157320538776789020469319833841985448949215332 := by decide +kernel
theorem wF_self (w : World) : wF w (w.params.followText "special-get-raises") (w.params.followText "comprehension-iter-twice") = w := by
  have e : (fun s => match Nat.beq (PySem.code s) 10139888712337904147300001983332972444938612 with
    | true => w.params.followText "special-get-raises"
    | false => match Nat.beq (PySem.code s) 2510650655181157320538776789020469319833841985448949215332 with
      | true => w.params.followText "comprehension-iter-twice"
      | false => w.params.followText s) = w.params.followText := by
    funext s
    split
    · rename_i q
      have := code_inj s "special-get-raises" ((Nat.eq_of_beq_eq_true q).trans code_r1.symm)
      rw [this]
    · split
      · rename_i q
        have := code_inj s "comprehension-iter-twice" ((Nat.eq_of_beq_eq_true q).trans code_r2.symm)
        rw [this]
      · rfl
  unfold wF
  rw [e]
noncomputable def VW (w : World) : SV := ⟨denF, entF, roomF, quietF, pw, w, ktop w.params, 932⟩
noncomputable abbrev VF (w : World) (b c : Bool) : SV := VW (wF w b c)
noncomputable def entOf (o : Obj) (self L : Addr) (stop : Bool := false) : Ent := match o.data with
  | .func fd => ⟨match fd.body with | .stmts b => b | .expr _ => [], { scope := fd.scope, locals := L, globals := fd.globals, cells := [], qual := fd.qualname ++ (⟨⟨[46, 60, 108, 111, 99, 97, 108, 115, 62, 46]⟩⟩ : Str), func := some self, code := fd.code, frame := some L, builtins := fd.builtins }, stop⟩
  | _ => ⟨[], default, stop⟩
end Mine
end
section
open PySem PySem.W PySem.W.X PyProof.Rows
set_option Elab.async false
set_option maxRecDepth 100000
set_option maxHeartbeats 0
namespace Mine
noncomputable def qv : Program := view pw [0, 1, 57]
noncomputable def looseL : List Str := (pw.main.scope.names.filterMap fun x => if x.2 == .local && !(["_sre", "deque", "law", "__name__"] : List Str).contains x.1 then some x.1 else none)
theorem chk : ∀ w : World, headT denF pw w 13000 (fenceModules? pw) (okTop pw) (fun s => (openSeen qv looseL (importedModules pw.main.body) (fun s => xlAt qv [] s && recOk [] s) true s, obsZ kAs s)) = some (openGood qv looseL, valZ K 932 1490 w) := by
  intro w
  kernel_rfl
end Mine
end
section
open PySem PySem.W PySem.W.X PyProof.Rows
set_option Elab.async false
set_option maxRecDepth 100000
namespace Mine
noncomputable def outS : Option (List Tm × List Tm) → List Tm
  | some p => p.2
  | none => []
theorem both_of {x : Option (List Tm × List Tm)} (h : x = some (outS x, outS x)) : Both x := ⟨_, h⟩
noncomputable abbrev runFr (w : World) (fr : Option (List Env)) (ρ : Nat → Addr) (τ : Nat → Tok) (n : Nat) (z : Of Fini) (hs : List Nat) (ks : List (Of Cut)) (es : List (Of Ent)) (room : Nat) (c : Code) (D : Dyn) : Option (List Tm × List Tm) :=
  sim (VW w) fr ρ τ z n hs ks es room .base c ((VW w).den c) D 0 0 [] []
noncomputable abbrev runOf (w : World) := runFr w none
end Mine
end
section
open PySem PySem.W PySem.W.X PyProof.Rows
set_option Elab.async false
set_option maxRecDepth 100000
namespace Mine
theorem Got.app0 {V : SV} {M : List Addr} {hI h : Heap} {L : Dyn} (G : Got V M hI (L ++ []) h) : Got V M hI L h := by rw [List.append_nil] at G; exact G
theorem spec_of_run {V : SV} (O : V.Ok) {fr : Option (List Env)} {need n : Nat} {c : Code} {pre : Dyn} {z : Of Fini} {hs : List Nat} {ks : List (Of Cut)} {es : List (Of Ent)} {P : Result → Dyn → Prop} (hc : denote table c = V.den c)
    (H : ∀ ρ τ, Both (sim V fr ρ τ z n hs ks es need .base c (V.den c) pre 0 0 [] []))
    (hk : ∀ k ∈ ks, ∀ ρ τ, Cut.Ok V (k ρ τ))
    (hP : ∀ ρ τ, match (z ρ τ).out with
      | .inl r => P r (z ρ τ).picks
      | .inr c' => Spec V fr need c' (z ρ τ).picks P) : Spec V fr need c pre P := by
  intro A s R hA hF hS ht hR
  obtain ⟨h, g, d, tk, os⟩ := s
  have ends : Ends V A R (pre.map (·.1)) h g d os z := by
    intro ρ τ h' tk' G ht'
    have p := hP ρ τ
    cases e : (z ρ τ).out with
    | inl r =>
      rw [e] at p
      exact hR r _ h' tk' p G ht'
    | inr c' =>
      rw [e] at p
      intro _
      have perm : ((z ρ τ).picks).Perm ((z ρ τ).picks ++ []) := by rw [List.append_nil]
      exact p A ⟨h', g, d, tk', os⟩ R hA hF (G.shows perm) ht' fun r L h'' tk'' hp C => hR r L h'' tk'' hp (G.cut perm C).app0
  have m := sim_sound O hF ends n hs ks es need .base c (V.den c) pre 0 0 [] [] (fun _ => 0) (fun _ => 0) h tk rfl hA (Got.start hS) ht hk fun ρ τ _ _ => H ρ τ
  have m' : wpOwn (model V.prog V.w) A c (V.den c) (postC V.prog V.w A R) (postE R) ⟨h, g, d, tk, os⟩ := m
  rw [← hc] at m'
  exact y_code _ _ _ _ _ _ m'
theorem Spec.mono {V : SV} {fr : Option (List Env)} {n m : Nat} {c : Code} {pre : Dyn} {P Q : Result → Dyn → Prop} (h : Spec V fr n c pre P) (hn : n ≤ m) (hq : ∀ r L, P r L → Q r L) : Spec V fr m c pre Q :=
  fun A s R hA hF hS ht hR => h A s R (hA.le hn) hF hS ht fun r L h' tk' hp G => hR r L h' tk' (hq r L hp) G
theorem Got.same {V : SV} {s : Heap} (hS : Shows V [] s) : Got V [] s [] s := Got.start hS
noncomputable def kV (id : String) (args : List Value) (v : Value) : Cut := ⟨none, .builtin id ⟨args, []⟩, [], 0, 0, 0, fun _ _ => .ok (.ret v), fun _ _ => [], fun _ _ => [], none⟩
noncomputable def hd0 : List Nat → Nat
  | a :: _ => a
  | [] => 0
noncomputable def kT (id : String) (args : List Value) (f : Tok → Value) : Cut := ⟨none, .builtin id ⟨args, []⟩, [], 0, 0, 1, fun _ ts => .ok (.ret (f (hd0 ts))), fun _ _ => [], fun _ _ => [], none⟩
noncomputable def kI (id : String) (args : List Value) (i : Int) : Cut := kT id args fun t => .int i t
noncomputable def kS (id : String) (args : List Value) (x : Str) : Cut := kT id args fun t => .str x t
section
variable {w : World} {id : String} {B : Builtin} {args : List Value}
theorem code_gives {A : Around} {R : Result → Shared → Prop} {s : Shared} {m : Made} (plain : plainId id = true) (entry : entryFor table id = some B) (g : Gives (B ⟨args, []⟩) m) (h : m.post (fun v s' => R (.ok (.ret v)) s') s) :
    codeAny (model pw w) A (.builtin id ⟨args, []⟩) R s :=
  codeAny_builtin entry (by rw [Around.under_plainId plain]; exact g pw w A R s h)
theorem kV_ok {v : Value} (plain : plainId id = true) (entry : entryFor table id = some B) (g : Gives (B ⟨args, []⟩) (.val v)) : Cut.Ok (VW w) (kV id args v) := fun _ s _ _ _ hS ht hR =>
  code_gives plain entry g (hR _ [] s.heap s.toks ⟨[], [], rfl, rfl, rfl, rfl⟩ (Got.same hS) ht)
theorem kI_ok {i : Int} (plain : plainId id = true) (entry : entryFor table id = some B) (g : Gives (B ⟨args, []⟩) (.int i)) : Cut.Ok (VW w) (kI id args i) := fun _ s _ _ _ hS _ hR =>
  code_gives plain entry g (hR _ [] s.heap (s.toks + 1) ⟨[], [s.toks], rfl, rfl, rfl, rfl⟩ (Got.same hS) (Nat.succ_pos _))
theorem kS_ok {x : Str} (hx : x.length ≤ sizeLine) (plain : plainId id = true) (entry : entryFor table id = some B) (g : Gives (B ⟨args, []⟩) (.str x)) : Cut.Ok (VW w) (kS id args x) := fun _ s _ _ _ hS _ hR =>
  code_gives plain entry g ⟨hx, hR _ [] s.heap (s.toks + 1) ⟨[], [s.toks], rfl, rfl, rfl, rfl⟩ (Got.same hS) (Nat.succ_pos _)⟩
end
theorem cut_ok {V : SV} {k : Cut} (h : Spec V k.fr k.need k.code k.pre fun r L => ∃ as ts, as.length = k.nA ∧ ts.length = k.nT ∧ r = k.res as ts ∧ L = zipAO (addrs k.pre) (k.post as ts) ++ zipAO as (k.new as ts) ++ k.extra as ts) : Cut.Ok V k := h
end Mine
end
section
open PySem PySem.W PySem.W.X PyProof.Rows
set_option Elab.async false
set_option maxRecDepth 100000
namespace Mine
theorem nolim_of {w : World} {h : Heap} (s : St (VW w) h) : h.NoLimit := by
  have e : h.get? cStatics = some (o2 w.params) := s 2 _ (by kernel_rfl)
  have a : h.isNs cStatics = true := by
    unfold Heap.isNs
    rw [e]
    kernel_rfl
  have b : h.nsMap cStatics "sys.recursionlimit" = none := by
    unfold Heap.nsMap
    rw [e]
    kernel_rfl
  exact ⟨_, .of_isNs a, b⟩
theorem VW_ok (w : World) : (VW w).Ok := ⟨denF_eq, entF_eq, roomF_eq, quietF_eq, fun _ => nolim_of⟩
theorem den_at (w : World) (c : Code) : denote table c = (VW w).den c := congrFun denF_eq c
theorem spec_run {w : World} {fr : Option (List Env)} {need n : Nat} {c : Code} {pre : Dyn} {z : Of Fini} {hs : List Nat} {ks : List (Of Cut)} {es : List (Of Ent)} {P : Result → Dyn → Prop}
    (H : ∀ ρ τ, Both (runFr w fr ρ τ n z hs ks es need c pre)) (hk : ∀ k ∈ ks, ∀ ρ τ, Cut.Ok (VW w) (k ρ τ))
    (hP : ∀ ρ τ, match (z ρ τ).out with
      | .inl r => P r (z ρ τ).picks
      | .inr c' => Spec (VW w) fr need c' (z ρ τ).picks P) : Spec (VW w) fr need c pre P := spec_of_run (VW_ok w) (den_at w c) H hk hP
noncomputable def fspath_h : List Nat := [0, 0, 1, 0, 0, 0, 1, 0, 0, 1, 0, 0, 0, 1, 0, 0, 0, 0, 0, 0, 0, 1, 1, 1, 1, 0, 0, 2, 0]
noncomputable def fspath_e (w : World) : List (Of Ent) := [fun ρ _ => entOf (o825 w.params) 825 (ρ 0)]
theorem fspath_run (w : World) (ρ : Nat → Addr) (τ : Nat → Tok) (x : Str) (t : Tok) : Both (runOf w ρ τ 100 (fun _ _ => ⟨.inl (.ok (.ret (.str x t))), []⟩) fspath_h [] (fspath_e w) 2 (.call (.ref 825) ⟨[.str x t], []⟩) []) :=
  both_of (by kernel_rfl)
theorem fspath_spec (w : World) (x : Str) (t : Tok) : Spec (VW w) none 2 (.call (.ref 825) ⟨[.str x t], []⟩) [] fun r L => r = .ok (.ret (.str x t)) ∧ L = [] :=
  spec_run (fun ρ τ => fspath_run w ρ τ x t) (fun _ hk => nomatch hk) fun _ _ => ⟨rfl, rfl⟩
end Mine
end
section
open PySem PySem.W PySem.W.X PyProof.Rows
set_option Elab.async false
set_option maxRecDepth 100000
namespace Mine
noncomputable abbrev St_ (l : List Nat) : Str := ⟨⟨l⟩⟩
noncomputable def dictO (es : List DictEntry) (n : Nat) : Obj := ⟨.type "dict", none, .dict ⟨es⟩ n, ⟨[]⟩⟩
noncomputable def instO (C d : Addr) : Obj := ⟨.ref C, some d, .plain, ⟨[]⟩⟩
noncomputable def ioD (P : Params) (T : Nat → Tok) (buf : List Nat) (tb : Tok) (p : Nat) (tp : Tok) : Obj :=
  dictO [en P ⟨⟨[95, 83, 116, 114, 105, 110, 103, 73, 79, 95, 95, 110, 101, 119, 108, 105, 110, 101]⟩⟩ (T 0) (.str ⟨⟨[10]⟩⟩ 756), en P ⟨⟨[95, 83, 116, 114, 105, 110, 103, 73, 79, 95, 95, 98, 117, 102]⟩⟩ (T 1) (.str ⟨⟨buf⟩⟩ tb),
    en P ⟨⟨[95, 83, 116, 114, 105, 110, 103, 73, 79, 95, 95, 112, 111, 115]⟩⟩ (T 2) (.int (.ofNat p) tp)] 3
noncomputable def lexD (P : Params) (T : Nat → Tok) (io q1 q2 : Addr) (st tk : Value) : Obj :=
  dictO [en P ⟨⟨[105, 110, 115, 116, 114, 101, 97, 109]⟩⟩ (T 0) (.ref io),
    en P ⟨⟨[105, 110, 102, 105, 108, 101]⟩⟩ (T 1) (.none),
    en P ⟨⟨[112, 111, 115, 105, 120]⟩⟩ (T 2) (.bool true),
    en P ⟨⟨[101, 111, 102]⟩⟩ (T 3) (.none),
    en P ⟨⟨[99, 111, 109, 109, 101, 110, 116, 101, 114, 115]⟩⟩ (T 4) (.str ⟨⟨[]⟩⟩ (T 24)),
    en P ⟨⟨[119, 111, 114, 100, 99, 104, 97, 114, 115]⟩⟩ (T 5) (.str ⟨⟨[97, 98, 99, 100, 102, 101, 103, 104, 105, 106, 107, 108, 109, 110, 111, 112, 113, 114, 115, 116, 117, 118, 119, 120, 121, 122, 65, 66, 67, 68, 69, 70, 71, 72, 73, 74, 75, 76, 77, 78, 79, 80, 81, 82, 83, 84, 85, 86, 87, 88, 89, 90, 48, 49, 50, 51, 52, 53, 54, 55, 56, 57, 95, 223, 224, 225, 226, 227, 228, 229, 230, 231, 232, 233, 234, 235, 236, 237, 238, 239, 240, 241, 242, 243, 244, 245, 246, 248, 249, 250, 251, 252, 253, 254, 255, 192, 193, 194, 195, 196, 197, 198, 199, 200, 201, 202, 203, 204, 205, 206, 207, 208, 209, 210, 211, 212, 213, 214, 216, 217, 218, 219, 220, 221, 222]⟩⟩ (T 25)),
    en P ⟨⟨[119, 104, 105, 116, 101, 115, 112, 97, 99, 101]⟩⟩ (T 6) (.str ⟨⟨[32, 9, 13, 10]⟩⟩ (T 26)),
    en P ⟨⟨[119, 104, 105, 116, 101, 115, 112, 97, 99, 101, 95, 115, 112, 108, 105, 116]⟩⟩ (T 7) (.bool true),
    en P ⟨⟨[113, 117, 111, 116, 101, 115]⟩⟩ (T 8) (.str ⟨⟨[39, 34]⟩⟩ (T 28)),
    en P ⟨⟨[101, 115, 99, 97, 112, 101]⟩⟩ (T 9) (.str ⟨⟨[92]⟩⟩ (T 29)),
    en P ⟨⟨[101, 115, 99, 97, 112, 101, 100, 113, 117, 111, 116, 101, 115]⟩⟩ (T 10) (.str ⟨⟨[34]⟩⟩ (T 30)),
    en P ⟨⟨[115, 116, 97, 116, 101]⟩⟩ (T 11) (st),
    en P ⟨⟨[112, 117, 115, 104, 98, 97, 99, 107]⟩⟩ (T 12) (.ref q1),
    en P ⟨⟨[108, 105, 110, 101, 110, 111]⟩⟩ (T 13) (.int 1 (T 33)),
    en P ⟨⟨[100, 101, 98, 117, 103]⟩⟩ (T 14) (.int 0 (T 34)),
    en P ⟨⟨[116, 111, 107, 101, 110]⟩⟩ (T 15) (tk),
    en P ⟨⟨[102, 105, 108, 101, 115, 116, 97, 99, 107]⟩⟩ (T 16) (.ref q2),
    en P ⟨⟨[115, 111, 117, 114, 99, 101]⟩⟩ (T 17) (.none),
    en P ⟨⟨[95, 112, 117, 110, 99, 116, 117, 97, 116, 105, 111, 110, 95, 99, 104, 97, 114, 115]⟩⟩ (T 18) (.str ⟨⟨[]⟩⟩ (T 38))] 19
noncomputable def rtF0 (P : Params) (E : Nat → Tok) (a : Addr) (te : Tok) : Obj := ⟨.type "frame", none, .dict ⟨[en P ⟨⟨[115, 101, 108, 102]⟩⟩ (E 0) (.ref a), en P ⟨⟨[113, 117, 111, 116, 101, 100]⟩⟩ (E 1) (.bool false), en P ⟨⟨[101, 115, 99, 97, 112, 101, 100, 115, 116, 97, 116, 101]⟩⟩ (E 2) (.str ⟨⟨[32]⟩⟩ te)]⟩ 3, ⟨[]⟩⟩
noncomputable def rtF1 (P : Params) (E : Nat → Tok) (a : Addr) (te kn : Tok) (nc : Value) : Obj := ⟨.type "frame", none, .dict ⟨[en P ⟨⟨[115, 101, 108, 102]⟩⟩ (E 0) (.ref a), en P ⟨⟨[113, 117, 111, 116, 101, 100]⟩⟩ (E 1) (.bool false), en P ⟨⟨[101, 115, 99, 97, 112, 101, 100, 115, 116, 97, 116, 101]⟩⟩ (E 2) (.str ⟨⟨[32]⟩⟩ te), en P ⟨⟨[110, 101, 120, 116, 99, 104, 97, 114]⟩⟩ kn (nc)]⟩ 4, ⟨[]⟩⟩
noncomputable def chS (c : Nat) (t : Tok) : Value := .str ⟨⟨[c]⟩⟩ t
end Mine
end
section
open PySem PySem.W PySem.W.X PyProof.Rows PySem.Builtin.Str
set_option Elab.async false
set_option maxRecDepth 100000
namespace Mine
noncomputable def sliceO (l u : Option (Int × Tok)) : Obj := ⟨.type "slice", none, .fields ⟨[partValue l, partValue u, .none]⟩, ⟨[]⟩⟩
noncomputable def kSl (x : List Nat) (tx : Tok) (a : Addr) (l u : Option (Int × Tok)) (y : List Nat) : Cut :=
  ⟨none, .builtin "str.__getitem__" ⟨[.str ⟨⟨x⟩⟩ tx, .ref a], []⟩, [(a, sliceO l u)], 0, 0, 1, fun _ ts => .ok (.ret (.str ⟨⟨y⟩⟩ (hd0 ts))), fun _ _ => [sliceO l u], fun _ _ => [], none⟩
theorem kSl_ok {w : World} {x : List Nat} {tx : Tok} {a : Addr} {l u : Option (Int × Tok)} {y : List Nat} (hx : x.length ≤ sizeLine) (hy : Txt.slice ⟨⟨x⟩⟩ (l.map (·.1)) (u.map (·.1)) = ⟨⟨y⟩⟩) : Cut.Ok (VW w) (kSl x tx a l u y) := by
  intro A s R _ _ hS ht hR
  have ho : s.heap.get? a = some (sliceO l u) := hS.has _ (.head _)
  have sl : s.heap.IsSlice a l u none := ⟨_, ho, rfl, rfl⟩
  have G := Got.start hS
  have back : ∀ t' k, 0 < k → R (.ok (.ret (.str ⟨⟨y⟩⟩ t'))) ⟨s.heap, s.gens, s.drawn, k, s.os⟩ := fun t' k => hR _ _ s.heap k ⟨[], [t'], rfl, rfl, rfl, rfl⟩ (by simpa [kSl, zipAO, addrs, Cut.extra] using G)
  refine codeAny_builtin F.entry_str_getitem ?_
  rw [Around.under_plainId F.slot_str_getitem.plain]
  refine meets_str_getitem_slice ⟨⟨x⟩⟩ tx a l u none rfl pw w A R s ⟨sl, ?_⟩
  have e : (if (((none : Option (Int × Tok)).map (·.1)).getD 1 == 1 && (slicePicked ⟨⟨x⟩⟩ l u none).length == (⟨⟨x⟩⟩ : Str).length) = true then (⟨⟨x⟩⟩ : Str) else ⟨((slicePicked ⟨⟨x⟩⟩ l u none).filterMap ((⟨⟨x⟩⟩ : Str).cps[·]?)).toArray⟩) = ⟨⟨y⟩⟩ := hy
  unfold sliceMade
  split
  · rename_i q
    rw [if_pos q] at e
    rw [e]
    exact back tx s.toks ht
  · rename_i q
    rw [if_neg q] at e
    rw [e]
    refine ⟨?_, back s.toks (s.toks + 1) (Nat.succ_pos _)⟩
    rw [← hy]
    exact Nat.le_trans (Txt.slice_le _ _ _) hx
theorem slice_plain {x : List Nat} {a b : Nat} (hab : a ≤ b) (hb : b ≤ x.length) : Txt.slice ⟨⟨x⟩⟩ (some (.ofNat a)) (some (.ofNat b)) = ⟨⟨(x.drop a).take (b - a)⟩⟩ := by
  have hb' : b ≤ (⟨⟨x⟩⟩ : Str).length := hb
  have e1 := StrLaws.strSliceIndices_plain (len := (⟨⟨x⟩⟩ : Str).length) hab hb'
  have e2 := StrLaws.sliced_plain ⟨⟨x⟩⟩ hab hb'
  have e3 : Txt.slice ⟨⟨x⟩⟩ (some (.ofNat a)) (some (.ofNat b)) = if ((1 : Int) == 1 && (strSliceIndices (some (a : Int)) (some (b : Int)) 1 (⟨⟨x⟩⟩ : Str).length).length == (⟨⟨x⟩⟩ : Str).length) = true then ⟨⟨x⟩⟩ else ⟨((strSliceIndices (some (a : Int)) (some (b : Int)) 1 (⟨⟨x⟩⟩ : Str).length).filterMap ((⟨⟨x⟩⟩ : Str).cps[·]?)).toArray⟩ := rfl
  rw [e3, e2]
  split
  · rename_i q
    rw [e1] at q
    have q : b - a = x.length := by simpa [Str.length] using q
    have ha : a = 0 := by have : b ≤ x.length := hb; omega
    subst ha
    rw [Nat.sub_zero] at q ⊢
    rw [q, List.drop_zero, List.take_length]
  · rfl
theorem cmp_ge {w : World} {a b : Int} {t u : Tok} {r : Bool} (h : decide (a ≥ b) = r) : Cut.Ok (VW w) (kV "int.__ge__" [.int a t, .int b u] (.bool r)) := by
  subst h; exact kV_ok F.slot_int_ge.plain F.entry_int_ge (gives_int_ge a b t u)
theorem cmp_lt {w : World} {a b : Int} {t u : Tok} {r : Bool} (h : decide (a < b) = r) : Cut.Ok (VW w) (kV "int.__lt__" [.int a t, .int b u] (.bool r)) := by
  subst h; exact kV_ok F.slot_int_lt.plain F.entry_int_lt (gives_int_lt a b t u)
theorem len_ok {w : World} {x : List Nat} {t : Tok} (hx : x.length ≤ sizeLine) : Cut.Ok (VW w) (kI "len" [.str ⟨⟨x⟩⟩ t] (.ofNat x.length)) := fun A s R _ _ hS _ hR => by
  refine codeAny_builtin entry_len ?_
  rw [Around.under_plainId plain_len]
  have hl : (⟨⟨x⟩⟩ : Str).length = x.length := rfl
  have hs : sizeLine = 16777216 := by decide
  exact wpAny_mono (wpAny_len_body (Q := fun r s' => R (.ok (.ret r)) s') (typeIs_str s ⟨⟨x⟩⟩ t) F.slot_str_len F.entry_str_len (F.args_str_len_1 _) (gives_str_len ⟨⟨x⟩⟩ t) (by omega) (by rw [hl]; omega)
    (hR _ [] s.heap _ ⟨[], [s.toks + 1], rfl, rfl, rfl, rfl⟩ (Got.same hS) (Nat.succ_pos _))) (fun fin s' h' => by obtain ⟨r, rfl, hq⟩ := h'; exact hq) fun _ _ e => e
noncomputable def Oks (w : World) (ks : List (Of Cut)) : Prop := ∀ k ∈ ks, ∀ ρ τ, Cut.Ok (VW w) (k ρ τ)
theorem Oks.nil {w : World} : Oks w [] := fun _ h => nomatch h
theorem Oks.cons {w : World} {k : Of Cut} {ks : List (Of Cut)} (h : ∀ ρ τ, Cut.Ok (VW w) (k ρ τ)) (t : Oks w ks) : Oks w (k :: ks) := fun k' hk => by
  rcases List.mem_cons.mp hk with rfl | hk
  · exact h
  · exact t k' hk
noncomputable def hd1 : List Nat → Nat
  | _ :: l => hd0 l
  | [] => 0
noncomputable def hd2 : List Nat → Nat
  | _ :: l => hd1 l
  | [] => 0
noncomputable def hd3 : List Nat → Nat
  | _ :: l => hd2 l
  | [] => 0
noncomputable def tupO (l : List Value) : Obj := ⟨.type "tuple", none, .seq ⟨l⟩ 0, ⟨[]⟩⟩
noncomputable def kTC (a : Addr) (l : List (List Nat × Tok)) (x : List Nat) (t : Tok) (r : Bool) : Cut :=
  ⟨none, .builtin "tuple.__contains__" ⟨[.ref a, .str ⟨⟨x⟩⟩ t], []⟩, [(a, tupO (l.map fun p => .str ⟨⟨p.1⟩⟩ p.2))], 0, 0, 0, fun _ _ => .ok (.ret (.bool r)), fun _ _ => [tupO (l.map fun p => .str ⟨⟨p.1⟩⟩ p.2)], fun _ _ => [], none⟩
theorem strsAre_map : ∀ l : List (List Nat × Tok), StrsAre (l.map fun p => Value.str ⟨⟨p.1⟩⟩ p.2) (l.map fun p => (⟨⟨p.1⟩⟩ : Str))
  | [] => .nil
  | _ :: l => .cons _ _ (strsAre_map l)
theorem kTC_ok {w : World} {a : Addr} {l : List (List Nat × Tok)} {x : List Nat} {t : Tok} {r : Bool} (h : (l.map fun p => (⟨⟨p.1⟩⟩ : Str)).any (· == ⟨⟨x⟩⟩) = r) : Cut.Ok (VW w) (kTC a l x t r) := fun A s R _ _ hS ht hR => by
  refine codeAny_builtin entry_tuple_contains ?_
  rw [Around.under_plainId slot_tuple_contains.plain]
  subst h
  have ho := hS.has _ (.head _)
  refine tuple_contains_strs ⟨_, ho, rfl, _, rfl⟩ (strsAre_map l) ?_
  exact hR _ _ s.heap s.toks ⟨[], [], rfl, rfl, rfl, rfl⟩ (by simpa [kTC, zipAO, addrs, Cut.extra] using Got.start hS) ht
theorem add_ok {w : World} {x y : List Nat} {t u : Tok} (hx : x ≠ []) (hy : y ≠ []) (hl : x.length + y.length ≤ sizeLine) : Cut.Ok (VW w) (kS "str.__add__" [.str ⟨⟨x⟩⟩ t, .str ⟨⟨y⟩⟩ u] ⟨⟨x ++ y⟩⟩) := by
  have e : (⟨⟨x⟩⟩ ++ ⟨⟨y⟩⟩ : Str) = ⟨⟨x ++ y⟩⟩ := by
    show (⟨_⟩ : Str) = _
    simp
  refine kS_ok (by simpa [Str.length] using hl) F.slot_str_add.plain F.entry_str_add ?_
  have g := gives_str_add ⟨⟨x⟩⟩ ⟨⟨y⟩⟩ t u
  have hx' : ((⟨⟨x⟩⟩ : Str).length == 0) = false := by simpa [Str.length] using hx
  have hy' : ((⟨⟨y⟩⟩ : Str).length == 0) = false := by simpa [Str.length] using hy
  rw [hx', hy', if_neg (by simp), if_neg (by simp), e] at g
  exact g
end Mine
end
section
open PySem PySem.W PySem.W.X PyProof.Rows
set_option Elab.async false
set_option maxRecDepth 100000
namespace Mine
noncomputable def exF : List Stmt → Env → Sem Flow := PySem.W.Fast.tw12563942051412417395
theorem exF_eq : execs = exF := PySem.W.Fast.te12563942051412417395
noncomputable def finF (m : Sem Flow) : Sem Fin := PySem.W.R.bindR m fun f => Sem.pure (.done f)
theorem finF_eq (m : Sem Flow) : finF m = m >>= fun f => Sem.pure (.done f) := by
  show _ = Sem.bind _ _
  rw [PySem.W.R.bindR_eq]
  rfl
noncomputable def SpecX (V : SV) (fr : Option (List Env)) (need : Nat) (c : Code) (m : Sem Flow) (pre : Dyn) (P : Result → Dyn → Prop) : Prop :=
  ∀ (A : Around) (s : Shared) (R : Result → Shared → Prop), Fit need A → (∀ l, fr = some l → A.frames = some l) → Shows V pre s.heap → 0 < s.toks →
    (∀ r L h' tk', P r L → Got V (pre.map (·.1)) s.heap L h' → 0 < tk' → R r ⟨h', s.gens, s.drawn, tk', s.os⟩) → wpOwn (model V.prog V.w) A c m (fun f s' => R (.ok f) s') (fun e s' => R (.error e) s') s
section
variable {V : SV} {fr : Option (List Env)} {need : Nat} {c : Code} {pre : Dyn} {P : Result → Dyn → Prop}
theorem specX_of_run (O : V.Ok) {m : Sem Flow} {n : Nat} {z : Of Fini} {hs : List Nat} {ks : List (Of Cut)} {es : List (Of Ent)}
    (H : ∀ ρ τ, Both (sim V fr ρ τ z n hs ks es need .base c (finF m) pre 0 0 [] []))
    (hk : ∀ k ∈ ks, ∀ ρ τ, Cut.Ok V (k ρ τ))
    (hP : ∀ ρ τ, ∃ r, (z ρ τ).out = .inl r ∧ P r (z ρ τ).picks) : SpecX V fr need c m pre P := by
  intro A s R hA hF hS ht hR
  obtain ⟨h, g, d, tk, os⟩ := s
  have ends : Ends V A R (pre.map (·.1)) h g d os z := by
    intro ρ τ h' tk' G ht'
    obtain ⟨r, e, p⟩ := hP ρ τ
    rw [e]
    exact hR r _ h' tk' p G ht'
  have m' := sim_sound O hF ends n hs ks es need .base c (finF m) pre 0 0 [] [] (fun _ => 0) (fun _ => 0) h tk rfl hA (Got.start hS) ht hk fun ρ τ _ _ => H ρ τ
  have m' : wpOwn (model V.prog V.w) A c (finF m) (postC V.prog V.w A R) (postE R) ⟨h, g, d, tk, os⟩ := m'
  rw [finF_eq] at m'
  intro Γ p hc hΓ
  have := m' Γ p hc hΓ
  rw [Sem.wp_bind'] at this
  exact this
theorem SpecX.mono {Q : Result → Dyn → Prop} {m : Sem Flow} {n k : Nat} (h : SpecX V fr n c m pre P) (hn : n ≤ k) (hq : ∀ r L, P r L → Q r L) : SpecX V fr k c m pre Q :=
  fun A s R hA hF hS ht hR => h A s R (hA.le hn) hF hS ht fun r L h' tk' hp G => hR r L h' tk' (hq r L hp) G
theorem SpecX.seq {m : Sem Flow} {f : Flow → Sem Flow} {P₁ : Result → Dyn → Prop} (h : SpecX V fr need c m pre P₁) (hn : ∀ r L, P₁ r L → ∃ g, r = .ok g ∧ SpecX V fr need c (f g) L P) : SpecX V fr need c (m >>= f) pre P := by
  intro A s R hA hF hS ht hR
  refine wpOwn_bind (wpOwn_mono (h A s (fun r s' => match r with
    | .ok g => wpOwn (model V.prog V.w) A c (f g) (fun f s' => R (.ok f) s') (fun e s' => R (.error e) s') s'
    | .error e => R (.error e) s') hA hF hS ht fun r L h' tk' hp G ht' => ?_) (fun _ _ x => x) fun _ _ x => x)
  obtain ⟨g, rfl, n⟩ := hn r L hp
  have perm : L.Perm (L ++ []) := by rw [List.append_nil]
  exact n A ⟨h', s.gens, s.drawn, tk', s.os⟩ R hA hF (G.shows perm) ht' fun r L' h'' tk'' hp C => hR r L' h'' tk'' hp (G.cut perm C).app0
theorem execs_append (env : Env) (ys : List Stmt) : ∀ xs : List Stmt, execs (xs ++ ys) env = execs xs env >>= fun f => match f with
    | .next => execs ys env
    | f => pure f
  | [] => rfl
  | x :: xs => by
    show (exec x env >>= fun f => match f with
      | .next => execs (xs ++ ys) env
      | f => pure f) = (exec x env >>= fun f => match f with
      | .next => execs xs env
      | f => pure f) >>= _
    rw [execs_append env ys xs]
    refine ((Sem.bind_assoc _ _ _).trans ?_).symm
    show Sem.bind _ _ = Sem.bind _ _
    congr 1
    funext f
    cases f <;> rfl
theorem SpecX.app {env : Env} {xs ys : List Stmt} {P₁ : Dyn → Prop} (h : SpecX V fr need c (execs xs env) pre fun r L => r = .ok .next ∧ P₁ L) (hn : ∀ L, P₁ L → SpecX V fr need c (execs ys env) L P) : SpecX V fr need c (execs (xs ++ ys) env) pre P := by
  rw [execs_append]
  refine h.seq fun r L ⟨e, p⟩ => ⟨.next, e, hn L p⟩
theorem wpOwn_onRaise {α : Type} {M : Model} {A : Around} {m : Sem α} {k : Value → Sem Unit} {Q : α → Shared → Prop} {E : Value → Shared → Prop} {s : Shared}
    (h : wpOwn M A c m Q (fun e s' => wpOwn M A c (k e) (fun _ s'' => E e s'') E s') s) : wpOwn M A c (m.onRaise k) Q E s := fun Γ p hc hΓ => by
  rw [Sem.wp_onRaise]
  exact Sem.wp_mono M Γ m (fun _ _ _ h' => h') (fun e p' s' h' => h' Γ p' hc hΓ) p s (h Γ p hc hΓ)
theorem func_own {prog : Program} {w : World} {A : Around} {body : List Stmt} {env : Env} {R : Result → Shared → Prop} {s : Shared}
    (h : wpOwn (model prog w) A (.func body env) (execs body env) (fun f s' => R (.ok (.ret (match f with | .ret v => v | _ => .none))) s')
      (fun e s' => wpAny (model prog w) (A.under (.func body env)) (leaving env e) (fun _ s'' => R (.error e) s'') (fun e' s'' => R (.error e') s'') s') s) : codeAny (model prog w) A (.func body env) R s := by
  refine y_code _ _ _ _ _ _ ?_
  show wpOwn _ A _ (do point; match ← (execs body env).onRaise (leaving env) with | .ret v => ret v | _ => ret .none) _ _ s
  refine wpOwn_bind (wpOwn_of_wpAny (wpAny_point ?_))
  refine wpOwn_bind (wpOwn_onRaise (wpOwn_mono h (fun f s' h' => ?_) fun e s' h' => wpOwn_mono (wpOwn_of_wpAny h') (fun _ _ x => x) fun _ _ x => x))
  cases f <;> exact y_pure _ _ _ _ _ _ _ _ _ h'
theorem spec_func {body : List Stmt} {env : Env} {P₁ : Result → Dyn → Prop} (h : SpecX V fr need (.func body env) (execs body env) pre P₁)
    (hn : ∀ r L, P₁ r L → ∃ f, r = .ok f ∧ P (.ok (.ret (match f with | .ret v => v | _ => .none))) L) : Spec V fr need (.func body env) pre P := by
  intro A s R hA hF hS ht hR
  refine func_own (wpOwn_mono (h A s (fun r s' => ∃ f, r = .ok f ∧ R (.ok (.ret (match f with | .ret v => v | _ => .none))) s') hA hF hS ht fun r L h' tk' hp G ht' => ?_) (fun f s' x => ?_) fun e s' x => ?_)
  · obtain ⟨f, e, p⟩ := hn r L hp
    exact ⟨f, e, hR _ _ _ _ p G ht'⟩
  · obtain ⟨g, e, y⟩ := x
    cases e
    exact y
  · obtain ⟨g, e, _⟩ := x
    cases e
end
theorem run_ex {w : World} {fr : Option (List Env)} {need n : Nat} {c : Code} {xs : List Stmt} {env : Env} {pre : Dyn} {z : Of Fini} {hs : List Nat} {ks : List (Of Cut)} {es : List (Of Ent)} {P : Result → Dyn → Prop}
    (H : ∀ ρ τ, Both (sim (VW w) fr ρ τ z n hs ks es need .base c (finF (exF xs env)) pre 0 0 [] [])) (hk : ∀ k ∈ ks, ∀ ρ τ, Cut.Ok (VW w) (k ρ τ))
    (hP : ∀ ρ τ, ∃ r, (z ρ τ).out = .inl r ∧ P r (z ρ τ).picks) : SpecX (VW w) fr need c (execs xs env) pre P := by
  rw [exF_eq]
  exact specX_of_run (VW_ok w) H hk hP
end Mine
end
section
open PySem PySem.W PySem.W.X PyProof.Rows
set_option Elab.async false
set_option maxRecDepth 100000
namespace Mine
noncomputable def listO (l : List Value) : Obj := ⟨.type "list", none, .seq ⟨l⟩ 0, ⟨[]⟩⟩
theorem Got.push {V : SV} {M : List Addr} {hI h : Heap} {L : Dyn} (G : Got V M hI L h) {o : Obj} (hf : o.isFreed = false) : Got V M hI ((h.objs.size, o) :: L) (h.push o) := G.alloc hf
noncomputable def kLN (x : Value) : Cut := ⟨none, .builtin "list.__new__" ⟨[.type "list", x], []⟩, [], 0, 1, 0, fun as _ => .ok (.ret (.ref (hd0 as))), fun _ _ => [], fun _ _ => [listO []], none⟩
theorem kLN_ok {w : World} {x : Value} : Cut.Ok (VW w) (kLN x) := by
  intro A s R _ _ hS ht hR
  refine codeAny_builtin_stack F.entry_list_new rfl fun p st => ?_
  rw [Around.under_plainId F.plain_list_new _]
  have hsub := sub_list_self
  have hown := owner_list_new
  have fin := hR (.ok (.ret (.ref s.heap.objs.size))) [(s.heap.objs.size, listO [])] (s.heap.push (listO [])) s.toks ⟨[s.heap.objs.size], [], rfl, rfl, rfl, rfl⟩ ((Got.start hS).alloc rfl) ht
  obtain ⟨hp, g, d, tk, os⟩ := s
  simp only [hown]
  wp_walk
  exact fin
noncomputable def exO (t : Addr) : Obj := ⟨.type "StopIteration", none, .fields ⟨[.ref t, .none, .none, .none, .bool false, .none]⟩, ⟨[]⟩⟩
noncomputable def kEN : Cut := ⟨none, .builtin "Exception.__new__" ⟨[.type "StopIteration"], []⟩, [], 0, 2, 0, fun as _ => .ok (.ret (.ref (hd0 as))), fun _ _ => [], fun as _ => [exO (hd1 as), tupO []], none⟩
theorem sub_stop_exc : isSubtype (.type "StopIteration") (.type "Exception") = pure true := by rw [isSubtype_type]; kernel_rfl
theorem sub_stop_attr : isSubtype (.type "StopIteration") (.type "AttributeError") = pure false := by rw [isSubtype_type]; kernel_rfl
theorem sub_stop_name : isSubtype (.type "StopIteration") (.type "NameError") = pure false := by rw [isSubtype_type]; kernel_rfl
theorem mro_stop : mroOf (.type "StopIteration") = pure [.type "StopIteration", .type "Exception", .type "BaseException", .type "object"] := by rw [mroOf_type]; kernel_rfl
theorem lookup_stop_new : typeLookup (.type "StopIteration") "__new__" = pure (some (.builtin "Exception.__new__")) := by rw [typeLookup_type, builtinLookup_eq_fast]; kernel_rfl
theorem made_stop : Bind.madeBy (.type "StopIteration") = pure (some "Exception.__new__") := madeBy_type mro_stop lookup_stop_new (by decide +kernel)
theorem base_stop : Bind.staticBase (.type "StopIteration") = pure (.type "StopIteration") := by
  unfold Bind.staticBase
  rw [mro_stop]
  simp only [pure_bind, List.forIn_cons, made_stop]
  rfl
theorem kEN_ok {w : World} : Cut.Ok (VW w) kEN := by
  intro A s R _ _ hS ht hR
  have X := F.excBase_Exception
  have hends := X.ends
  have h1 := sub_stop_exc
  have h2 := sub_stop_attr
  have h3 := sub_stop_name
  have h4 := made_stop
  have h5 := X.canon
  have G := ((Got.start hS).alloc (o := tupO []) rfl).alloc (o := exO s.heap.objs.size) rfl
  have fin := hR (.ok (.ret (.ref (s.heap.push (tupO [])).objs.size))) _ _ s.toks ⟨[(s.heap.push (tupO [])).objs.size, s.heap.objs.size], [], rfl, rfl, rfl, rfl⟩ G ht
  obtain ⟨hp, g, d, tk, os⟩ := s
  refine codeAny_builtinAt X.entry ?_
  unfold Builtin.«BaseException.__new__»
  refine PySem.wpAt_bind ?_
  show PySem.wpAt _ _ _ (stack >>= _) _ _ _
  refine PySem.wpAt_bind (PySem.wpAt_stack fun p below => PySem.wpAt_of_wpAny ?_)
  wp_walk
  refine PySem.wpAt_of_wpAny ?_
  rw [X.owner]
  iterate 5 wp_step
  refine wpAny_of_eq h1 ?_
  show wpAny _ _ (Bind.madeHere _ _ >>= _) _ _ _
  refine wpAny_bind ?_
  unfold Bind.madeHere
  refine wpAny_bind (wpAny_of_eq (a := .type "StopIteration") base_stop (wpAny_bind (wpAny_of_eq h4 ?_)))
  simp only [Option.map_some, h5, bne_self_eq_false, Bool.false_eq_true, if_false]
  refine wpAny_pure ?_
  refine wpAny_bind (wpAny_of_eq (a := 0) ?_ ?_)
  · show (isSubtype _ _ >>= _) = _
    rw [h2]
    show (isSubtype _ _ >>= _) = _
    rw [h3]
    rfl
  refine wpAny_bind (wpAny_newTuple ?_ (by decide))
  refine wpAny_bind (wpAny_newObj_type ?_ (show 6 ≤ sizeLine + 2 by decide))
  exact wpAny_pure fin
end Mine
end
section
open PySem PySem.W PySem.W.X PyProof.Rows
set_option Elab.async false
set_option maxRecDepth 100000
namespace Mine
noncomputable def readyO (env : Env) (back : Value) (o : Obj) : Obj := { o with slots := #[some env.code, some (.ref env.globals), o.slots.getD 2 none, some back, o.slots.getD 4 none, env.func.map Value.ref, some (.ref env.builtins)]
  ++ (env.cells.map fun c => some (.ref c.2)).toArray }
theorem ready_fr {env : Env} {back : Value} {o : Obj} (h : o.isFreed = false) : (readyO env back o).isFreed = false := by
  obtain ⟨c, dd, dt, sl⟩ := o
  cases dt <;> first | rfl | cases h
noncomputable def bkV : Nat → Value
  | 0 => .none
  | _ => .notImplemented
section
variable {V : SV} {Md : Model} {A : Around} {E : Value → Shared → Prop} {M : List Addr} {hI h : Heap} {g : Array GenState} {d : Drawn} {tk : Nat} {os : OsState} {D : Dyn}
theorem Got.perm {L : Dyn} (G : Got V M hI D h) (p : D.Perm L) : Got V M hI L h := G.picks (R := []) (by rw [List.append_nil]; exact p)
theorem Got.up0 {a : Addr} {o : Obj} {f : Obj → Obj} (G : Got V M hI ((a, o) :: D) h) (hf : (f o).isFreed = false) : h.get? a = some o ∧ Got V M hI ((a, f o) :: D) (h.update a f) := G.update (n := 0) rfl hf
theorem readyFrames_cons {env : Env} {outer : List Env} {L : Addr} {o : Obj} {Q : Unit → Shared → Prop} (G : Got V M hI ((L, o) :: D) h) (hf : env.frame = some L) (hk : env.scope.kind ≠ .module)
    (hs : (o.slots.getD 3 none).isSome = false) (hfr : o.isFreed = false) (hq : ∀ back h', Got V M hI ((L, readyO env back o) :: D) h' → wpAny Md A (readyFrames outer) Q E ⟨h', g, d, tk, os⟩) :
    wpAny Md A (readyFrames (env :: outer)) Q E ⟨h, g, d, tk, os⟩ := by
  simp only [readyFrames, hf]
  obtain ⟨ho, -⟩ := G.up0 (f := fun o => o) hfr
  refine wpAny_bind (wpAny_load ho ?_)
  rw [if_neg (by rw [hs]; exact Bool.false_ne_true)]
  refine wpAny_bind (wpAny_of_eq (a := false) (by simp [behindIsImport, hk]) ?_)
  refine wpAny_bind (wpAny_keptBack_false fun back => ?_)
  refine wpAny_bind (wpAny_update ho ?_)
  exact hq back _ (G.up0 (f := readyO env back) (ready_fr hfr)).2
theorem readyFrames_one {env : Env} {L : Addr} {o : Obj} {Q : Unit → Shared → Prop} (G : Got V M hI ((L, o) :: D) h) (hf : env.frame = some L) (hk : env.scope.kind ≠ .module)
    (hs : (o.slots.getD 3 none).isSome = false) (hfr : o.isFreed = false) (hq : ∀ n h', Got V M hI ((L, readyO env (bkV n) o) :: D) h' → Q () ⟨h', g, d, tk, os⟩) :
    wpAny Md A (readyFrames [env]) Q E ⟨h, g, d, tk, os⟩ := by
  simp only [readyFrames, hf]
  obtain ⟨ho, -⟩ := G.up0 (f := fun o => o) hfr
  refine wpAny_bind (wpAny_load ho ?_)
  rw [if_neg (by rw [hs]; exact Bool.false_ne_true)]
  refine wpAny_bind (wpAny_of_eq (a := false) (by simp [behindIsImport]) ?_)
  have fin : ∀ n, wpAny Md A (do update L fun o => readyO env (bkV n) o; pure ()) Q E ⟨h, g, d, tk, os⟩ := fun n => wpAny_bind (wpAny_update ho (wpAny_pure (hq n _ (G.up0 (f := readyO env (bkV n)) (ready_fr hfr)).2)))
  refine wpAny_bind ?_
  simp only [keptBack]
  split
  · exact wpAny_pure (fin 0)
  · refine wpAny_bind (wpAny_underTheClaimsCaller fun b => ?_)
    cases b
    · exact wpAny_pure (fin 0)
    · exact wpAny_pure (fin 1)
theorem perm5 (t x l2 l1 l0 : Addr × Obj) (D : Dyn) : (t :: x :: l2 :: l1 :: l0 :: D).Perm ((x :: l2 :: D) ++ [t, l1, l0]) := by
  refine List.Perm.trans ?_ List.perm_append_comm
  exact .cons _ ((List.perm_append_comm (l₁ := [x, l2]) (l₂ := [l1, l0])).append_right D)
theorem leave3 {e0 e1 e2 : Env} {L0 L1 L2 e : Addr} {o0 o1 o2 : Obj} {cls v0 v2 v3 v4 v5 : Value} {Q : Unit → Shared → Prop} (hA : A.frames = some [e0, e1, e2])
    (f0 : e0.frame = some L0) (f1 : e1.frame = some L1) (f2 : e2.frame = some L2) (k0 : e0.scope.kind ≠ .module) (k1 : e1.scope.kind ≠ .module) (k2 : e2.scope.kind ≠ .module)
    (s0 : (o0.slots.getD 3 none).isSome = false) (s1 : (o1.slots.getD 3 none).isSome = false) (s2 : (o2.slots.getD 3 none).isSome = false)
    (r0 : o0.isFreed = false) (r1 : o1.isFreed = false) (r2 : o2.isFreed = false)
    (G : Got V M hI ((e, ⟨cls, none, .fields ⟨[v0, .none, v2, v3, v4, v5]⟩, ⟨[]⟩⟩) :: (L0, o0) :: (L1, o1) :: (L2, o2) :: D) h)
    (hq : ∀ tb n h', Got V M hI ((e, ⟨cls, none, .fields ⟨[v0, .ref tb, v2, v3, v4, v5]⟩, ⟨[]⟩⟩) :: (L2, readyO e2 (bkV n) o2) :: D) h' → Q () ⟨h', g, d, tk, os⟩) :
    wpAny Md A (leaving e0 (.ref e)) Q E ⟨h, g, d, tk, os⟩ := by
  unfold leaving noteFrame
  simp only [f0]
  obtain ⟨he, -⟩ := G.up0 (f := fun o => o) rfl
  refine wpAny_bind (wpAny_bind (wpAny_field he rfl (x := .none) (by rfl) ?_))
  rw [if_neg (by decide)]
  unfold PySem.frameOf
  refine wpAny_bind (wpAny_bind (wpAny_frameEnvs hA ?_))
  have hdw : ([e0, e1, e2].dropWhile fun x => x.frame != e0.frame) = [e0, e1, e2] := by simp [List.dropWhile]
  rw [hdw]
  unfold frameObject
  have G1 : Got V M hI ((L0, o0) :: (L1, o1) :: (L2, o2) :: (e, ⟨cls, none, .fields ⟨[v0, .none, v2, v3, v4, v5]⟩, ⟨[]⟩⟩) :: D) h := G.perm (by
    refine (List.Perm.swap ..).trans (.cons _ ?_)
    refine (List.Perm.swap ..).trans (.cons _ (List.Perm.swap ..)))
  refine wpAny_bind (wpAny_bind (readyFrames_cons G1 f0 k0 s0 r0 fun b0 h1 G1 => ?_))
  refine readyFrames_cons (G1.perm (L := (L1, o1) :: (L2, o2) :: (e, _) :: (L0, _) :: D) (by
    refine (List.Perm.swap ..).trans (.cons _ ?_)
    refine (List.Perm.swap ..).trans (.cons _ (List.Perm.swap ..)))) f1 k1 s1 r1 fun b1 h2 G2 => ?_
  refine readyFrames_one (G2.perm (L := (L2, o2) :: (e, _) :: (L1, _) :: (L0, _) :: D) (by
    refine (List.Perm.swap ..).trans (.cons _ (List.Perm.swap ..)))) f2 k2 s2 r2 fun n h3 G3 => ?_
  refine wpAny_pure ?_
  rw [f0]
  refine wpAny_pure ?_
  refine wpAny_bind (wpAny_entryPlaceOf fun pl hpl => ?_)
  unfold EntryCells.newEntry newFields
  refine wpAny_bind (wpAny_newObj_type ?_ (hpl.sizeOk5 _ _ _ _ _))
  have G4 := G3.alloc (o := { cls := .type "traceback", dict := none, data := .fields ([Value.none, .ref L0, .none, rawInt L0, .none] ++ (if pl.isEmpty then List.replicate 6 Value.none else pl)).toArray }) rfl
  have G5 := G4.perm (L := (e, ⟨cls, none, .fields ⟨[v0, .none, v2, v3, v4, v5]⟩, ⟨[]⟩⟩) :: (h3.objs.size, _) :: (L2, _) :: (L1, _) :: (L0, _) :: D) (by
    refine List.Perm.trans (.cons _ (List.Perm.swap ..)) (List.Perm.swap ..))
  obtain ⟨he5, G6⟩ := G5.up0 (f := Obj.mapFields (·.setIfInBounds 1 (.ref h3.objs.size))) rfl
  refine wpAny_setField he5 rfl (show 1 < 6 by decide) ?_
  unfold setFlight
  obtain ⟨he6, -⟩ := G6.up0 (f := fun o => o) rfl
  refine wpAny_bind (wpAny_field he6 rfl (x := .ref h3.objs.size) (by rfl) ?_)
  rw [if_pos (show (Value.ref h3.objs.size != Value.none) = true from by simp)]
  have G7 := G6.perm (L := (h3.objs.size, _) :: (e, _) :: (L2, _) :: (L1, _) :: (L0, _) :: D) (List.Perm.swap ..)
  obtain ⟨ht7, G8⟩ := G7.up0 (f := Obj.mapFields (·.setIfInBounds 3 ((none : Option Addr).elim Value.none fun f => rawInt f))) rfl
  refine wpAny_setField ht7 rfl (by simp only [List.size_toArray, List.length_append, List.length_cons, List.length_nil]; omega) (hq h3.objs.size n _ ?_)
  exact G8.picks (perm5 _ _ _ _ _ D)
end
theorem Got.memM {V : SV} {M N : List Addr} {hI h : Heap} {D : Dyn} (G : Got V M hI D h) (hm : ∀ x, x ∈ M → x ∈ N) : Got V N hI D h :=
  ⟨G.st, G.big, G.size, fun b o hb e => G.keep b o (fun q => hb (hm b q)) e, G.has, fun p hp => (G.own p hp).imp (hm _) id, G.ge, G.nd⟩
theorem Spec.perm {V : SV} {fr : Option (List Env)} {n : Nat} {c : Code} {pre pre' : Dyn} {P Q : Result → Dyn → Prop} (h : Spec V fr n c pre P) (p : pre'.Perm pre) (hq : ∀ r L, P r L → ∃ L', L.Perm L' ∧ Q r L') : Spec V fr n c pre' Q := by
  intro A s R hA hF hS ht hR
  refine h A s R hA hF ((Got.start hS).shows (L := pre) (R := []) (by rw [List.append_nil]; exact p)) ht fun r L h' tk' hp G ht' => ?_
  obtain ⟨L', e, q⟩ := hq r L hp
  exact hR r L' h' tk' q ((G.perm e).memM fun x hx => ((p.map (·.1)).mem_iff).mpr hx) ht'
noncomputable def listN (l : List Value) (n : Nat) : Obj := ⟨.type "list", none, .seq ⟨l⟩ n, ⟨[]⟩⟩
end Mine
end
section
open PySem PySem.W PySem.W.X PyProof.Rows
set_option Elab.async false
set_option maxRecDepth 100000
namespace Mine
theorem same_ne {a x : Addr} (h : a ≠ x) : Builtin.List.listSameRef (.ref a) (.ref x) = false := by
  show (a == x) = false
  simpa using h
theorem den_builtin {id : String} {args : Args} {B : Builtin} (h : entryFor table id = some B) : denote table (.builtin id args) = B args := by
  show (match entryFor table id with | some b => b args | none => unsupported ((withoutEnding? id "#data").getD id)) = _
  rw [h]
noncomputable def liT (a x : Addr) : { t : Sem Fin // a ≠ x → denote table (.builtin "list.__init__" ⟨[.ref a, .ref x], []⟩) = t } := by
  refine ⟨?t, fun h => ?p⟩
  case p =>
    rewrite [den_builtin F.entry_list_init]
    rewrite [PySem.W.Fast.te7929263774796372950]
    unfold PySem.W.Fast.tw7929263774796372950 PySem.W.Fast.tw8938917530802602619
    simp only [same_ne h]
    exact rfl
theorem spec_tree {w : World} {fr : Option (List Env)} {need n : Nat} {c : Code} {t : Sem Fin} {pre : Dyn} {z : Of Fini} {hs : List Nat} {ks : List (Of Cut)} {es : List (Of Ent)} {P : Result → Dyn → Prop} (hc : denote table c = t)
    (H : ∀ ρ τ, Both (sim (VW w) fr ρ τ z n hs ks es need .base c t pre 0 0 [] [])) (hk : ∀ k ∈ ks, ∀ ρ τ, Cut.Ok (VW w) (k ρ τ))
    (hP : ∀ ρ τ, ∃ r, (z ρ τ).out = .inl r ∧ P r (z ρ τ).picks) : Spec (VW w) fr need c pre P := by
  intro A s R hA hF hS ht hR
  obtain ⟨h, g, d, tk, os⟩ := s
  have ends : Ends (VW w) A R (pre.map (·.1)) h g d os z := by
    intro ρ τ h' tk' G ht'
    obtain ⟨r, e, p⟩ := hP ρ τ
    rw [e]
    exact hR r _ h' tk' p G ht'
  have m := sim_sound (VW_ok w) hF ends n hs ks es need .base c t pre 0 0 [] [] (fun _ => 0) (fun _ => 0) h tk rfl hA (Got.start hS) ht hk fun ρ τ _ _ => H ρ τ
  have m' : wpOwn (model pw w) A c t (postC pw w A R) (postE R) ⟨h, g, d, tk, os⟩ := m
  rw [← hc] at m'
  exact y_code _ _ _ _ _ _ m'
end Mine
end
section
open PySem PySem.W PySem.W.X PyProof.Rows
set_option Elab.async false
set_option maxRecDepth 100000
namespace Mine
noncomputable def itO (T : String) (q : Addr) (i : Nat) : Obj := ⟨.type T, none, .fields ⟨[.ref q, .int (.ofNat i) 0]⟩, ⟨[]⟩⟩
noncomputable def itE (T : String) (i : Nat) : Obj := ⟨.type T, none, .fields ⟨[.none, .int (.ofNat i) 0]⟩, ⟨[]⟩⟩
noncomputable def sqO (T : String) (vs : List Value) (n : Nat) : Obj := ⟨.type T, none, .seq ⟨vs⟩ n, ⟨[]⟩⟩
noncomputable def kIN (it q : Addr) (i : Nat) (vs : List Value) (n : Nat) (v : Value) : Cut := ⟨none, .builtin "list_iterator.__next__" ⟨[.ref it], []⟩, [(it, itO "list_iterator" q i), (q, sqO "list" vs n)], 0, 0, 0, fun _ _ => .ok (.ret v),
  fun _ _ => [itO "list_iterator" q (i + 1), sqO "list" vs n], fun _ _ => [], none⟩
noncomputable def kTN (it q : Addr) (i : Nat) (vs : List Value) (v : Value) : Cut := ⟨none, .builtin "tuple_iterator.__next__" ⟨[.ref it], []⟩, [(it, itO "tuple_iterator" q i), (q, sqO "tuple" vs 0)], 0, 0, 0, fun _ _ => .ok (.ret v),
  fun _ _ => [itO "tuple_iterator" q (i + 1), sqO "tuple" vs 0], fun _ _ => [], none⟩
noncomputable def kIE (it q : Addr) (vs : List Value) (n : Nat) : Cut := ⟨none, .builtin "list_iterator.__next__" ⟨[.ref it], []⟩, [(it, itO "list_iterator" q vs.length), (q, sqO "list" vs n)], 0, 2, 0, fun as _ => .error (.ref (hd0 as)),
  fun _ _ => [itE "list_iterator" vs.length, sqO "list" vs n], fun as _ => [exO (hd1 as), tupO []], none⟩
noncomputable def kTE (it q : Addr) (vs : List Value) : Cut := ⟨none, .builtin "tuple_iterator.__next__" ⟨[.ref it], []⟩, [(it, itO "tuple_iterator" q vs.length), (q, sqO "tuple" vs 0)], 0, 2, 0, fun as _ => .error (.ref (hd0 as)),
  fun _ _ => [itE "tuple_iterator" vs.length, sqO "tuple" vs 0], fun as _ => [exO (hd1 as), tupO []], none⟩
theorem get_list {vs : List Value} {i : Nat} {v : Value} (h : vs[i]? = some v) : (⟨vs⟩ : Array Value)[(Int.ofNat i).toNat]? = some v := by
  show (⟨vs⟩ : Array Value)[i]? = some v
  rw [← h]
  simp
theorem get_none {vs : List Value} : (⟨vs⟩ : Array Value)[(Int.ofNat vs.length).toNat]? = none := by
  show (⟨vs⟩ : Array Value)[vs.length]? = none
  simp
theorem kIN_ok {w : World} {it q : Addr} {i : Nat} {vs : List Value} {n : Nat} {v : Value} (hv : vs[i]? = some v) : Cut.Ok (VW w) (kIN it q i vs n v) := by
  intro A s R hA _ hS ht hR
  have G := Got.start hS
  obtain ⟨ho, G'⟩ := G.up0 (f := Obj.mapFields (·.setIfInBounds 1 (rawInt (Int.ofNat i + 1)))) rfl
  have hol : s.heap.get? q = some (sqO "list" vs n) := hS.has _ (.tail _ (.head _))
  refine codeAny_builtin entry_listiter_next ?_
  rw [Around.under_plainId (by decide +kernel)]
  show wpAny _ _ (field (.ref it) 0 >>= _) _ _ s
  refine wpAny_bind (wpAny_field ho rfl (x := .ref q) rfl ?_)
  show wpAny _ _ (if (Value.ref q == Value.none) = true then _ else _) _ _ s
  rw [if_neg (show ¬ ((Value.ref q == Value.none) = true) from Bool.false_ne_true)]
  show wpAny _ _ (field (.ref it) 1 >>= _) _ _ s
  refine wpAny_bind (wpAny_field ho rfl (x := .int (.ofNat i) 0) rfl ?_)
  show wpAny _ _ (seqItems? (.ref q) >>= _) _ _ s
  refine wpAny_bind (wpAny_seqItems hol rfl ?_)
  simp only [get_list hv]
  exact wpAny_bind (wpAny_setField ho rfl (show 1 < 2 by decide) (wpAny_pure (hR _ _ _ _ ⟨[], [], rfl, rfl, rfl, rfl⟩ G' ht)))
theorem kTN_ok {w : World} {it q : Addr} {i : Nat} {vs : List Value} {v : Value} (hv : vs[i]? = some v) : Cut.Ok (VW w) (kTN it q i vs v) := by
  intro A s R hA _ hS ht hR
  have G := Got.start hS
  obtain ⟨ho, G'⟩ := G.up0 (f := Obj.mapFields (·.setIfInBounds 1 (rawInt (Int.ofNat i + 1)))) rfl
  have hol : s.heap.get? q = some (sqO "tuple" vs 0) := hS.has _ (.tail _ (.head _))
  refine codeAny_builtin entry_tupleiter_next ?_
  rw [Around.under_plainId (by decide +kernel)]
  show wpAny _ _ (field (.ref it) 0 >>= _) _ _ s
  refine wpAny_bind (wpAny_field ho rfl (x := .ref q) rfl ?_)
  show wpAny _ _ (if (Value.ref q == Value.none) = true then _ else _) _ _ s
  rw [if_neg (show ¬ ((Value.ref q == Value.none) = true) from Bool.false_ne_true)]
  show wpAny _ _ (field (.ref it) 1 >>= _) _ _ s
  refine wpAny_bind (wpAny_field ho rfl (x := .int (.ofNat i) 0) rfl ?_)
  show wpAny _ _ (seqItems? (.ref q) >>= _) _ _ s
  refine wpAny_bind (wpAny_seqItems hol rfl ?_)
  simp only [get_list hv]
  exact wpAny_bind (wpAny_setField ho rfl (show 1 < 2 by decide) (wpAny_pure (hR _ _ _ _ ⟨[], [], rfl, rfl, rfl, rfl⟩ G' ht)))
theorem kIE_ok {w : World} {it q : Addr} {vs : List Value} {n : Nat} : Cut.Ok (VW w) (kIE it q vs n) := by
  intro A s R hA _ hS ht hR
  have G := Got.start hS
  obtain ⟨ho, G'⟩ := G.up0 (f := Obj.mapFields (·.setIfInBounds 0 .none)) rfl
  have hol : s.heap.get? q = some (sqO "list" vs n) := hS.has _ (.tail _ (.head _))
  refine codeAny_builtin entry_listiter_next ?_
  rw [Around.under_plainId (by decide +kernel)]
  show wpAny _ _ (field (.ref it) 0 >>= _) _ _ s
  refine wpAny_bind (wpAny_field ho rfl (x := .ref q) rfl ?_)
  show wpAny _ _ (if (Value.ref q == Value.none) = true then _ else _) _ _ s
  rw [if_neg (show ¬ ((Value.ref q == Value.none) = true) from Bool.false_ne_true)]
  show wpAny _ _ (field (.ref it) 1 >>= _) _ _ s
  refine wpAny_bind (wpAny_field ho rfl (x := .int (.ofNat vs.length) 0) rfl ?_)
  show wpAny _ _ (seqItems? (.ref q) >>= _) _ _ s
  refine wpAny_bind (wpAny_seqItems hol rfl ?_)
  simp only [get_none]
  refine wpAny_bind (wpAny_rule (wpAny_bind (wpAny_setField ho rfl (show 0 < 2 by decide) ?_)))
  show wpAny _ _ (newExc (.type "StopIteration") [] >>= _) _ _ _
  refine wpAny_bind ?_
  simp only [newExc, newTuple]
  have G2 := G'.alloc (o := tupO []) rfl
  have G3 := G2.alloc (o := exO (s.heap.update it (Obj.mapFields (·.setIfInBounds 0 .none))).objs.size) rfl
  refine wpAny_bind (wpAny_newObj_type ?_ (by size_fits))
  refine wpAny_bind (m := firstArgMember _ _) (wpAny_of_eq (a := Value.none) (by first | rfl | (simp only [firstArgMember]; rfl)) ?_)
  refine wpAny_newObj_type ?_ (show 6 ≤ sizeLine + 2 by decide)
  simp only [raiseNew]
  refine wpAny_bind (wpAny_handled ?_)
  rw [show A.in1.handled = none from hA.handled]
  refine wpAny_bind (wpAny_pure (wpAny_throw ?_))
  exact hR _ _ _ _ ⟨[_, _], [], rfl, rfl, rfl, rfl⟩ (G3.perm (List.perm_append_comm (l₁ := [(_, exO _), (_, tupO [])]) (l₂ := [(it, itE "list_iterator" vs.length), (q, sqO "list" vs n)]))) ht
theorem kTE_ok {w : World} {it q : Addr} {vs : List Value} : Cut.Ok (VW w) (kTE it q vs) := by
  intro A s R hA _ hS ht hR
  have G := Got.start hS
  obtain ⟨ho, G'⟩ := G.up0 (f := Obj.mapFields (·.setIfInBounds 0 .none)) rfl
  have hol : s.heap.get? q = some (sqO "tuple" vs 0) := hS.has _ (.tail _ (.head _))
  refine codeAny_builtin entry_tupleiter_next ?_
  rw [Around.under_plainId (by decide +kernel)]
  show wpAny _ _ (field (.ref it) 0 >>= _) _ _ s
  refine wpAny_bind (wpAny_field ho rfl (x := .ref q) rfl ?_)
  show wpAny _ _ (if (Value.ref q == Value.none) = true then _ else _) _ _ s
  rw [if_neg (show ¬ ((Value.ref q == Value.none) = true) from Bool.false_ne_true)]
  show wpAny _ _ (field (.ref it) 1 >>= _) _ _ s
  refine wpAny_bind (wpAny_field ho rfl (x := .int (.ofNat vs.length) 0) rfl ?_)
  show wpAny _ _ (seqItems? (.ref q) >>= _) _ _ s
  refine wpAny_bind (wpAny_seqItems hol rfl ?_)
  simp only [get_none]
  refine wpAny_bind (wpAny_rule (wpAny_bind (wpAny_setField ho rfl (show 0 < 2 by decide) ?_)))
  show wpAny _ _ (newExc (.type "StopIteration") [] >>= _) _ _ _
  refine wpAny_bind ?_
  simp only [newExc, newTuple]
  have G2 := G'.alloc (o := tupO []) rfl
  have G3 := G2.alloc (o := exO (s.heap.update it (Obj.mapFields (·.setIfInBounds 0 .none))).objs.size) rfl
  refine wpAny_bind (wpAny_newObj_type ?_ (by size_fits))
  refine wpAny_bind (m := firstArgMember _ _) (wpAny_of_eq (a := Value.none) (by first | rfl | (simp only [firstArgMember]; rfl)) ?_)
  refine wpAny_newObj_type ?_ (show 6 ≤ sizeLine + 2 by decide)
  simp only [raiseNew]
  refine wpAny_bind (wpAny_handled ?_)
  rw [show A.in1.handled = none from hA.handled]
  refine wpAny_bind (wpAny_pure (wpAny_throw ?_))
  exact hR _ _ _ _ ⟨[_, _], [], rfl, rfl, rfl, rfl⟩ (G3.perm (List.perm_append_comm (l₁ := [(_, exO _), (_, tupO [])]) (l₂ := [(it, itE "tuple_iterator" vs.length), (q, sqO "tuple" vs 0)]))) ht
end Mine
end
section
open PySem PySem.W PySem.W.X PyProof.Rows PySem.Builtin.Str
set_option Elab.async false
set_option maxRecDepth 100000
namespace Mine
noncomputable def sv (l : List Nat) (t : Tok) : Value := .str ⟨⟨l⟩⟩ t
theorem sw_no {w : World} {x : List Nat} {c : Nat} {t u : Tok} (h : x[0]? ≠ some c) : Cut.Ok (VW w) (kV "str.startswith" [sv x t, sv [c] u] (.bool false)) := by
  refine kV_ok F.slot_str_startswith.plain F.entry_str_startswith ?_
  have g := gives_str_startswith ⟨⟨x⟩⟩ ⟨⟨[c]⟩⟩ t u
  have e : (decide (0 + (⟨⟨[c]⟩⟩ : Str).length ≤ (⟨⟨x⟩⟩ : Str).length) && subAt ⟨⟨x⟩⟩ ⟨⟨[c]⟩⟩ 0) = false := by
    rw [Bool.eq_false_iff]
    intro q
    rw [Bool.and_eq_true, decide_eq_true_eq] at q
    exact h ((StrLaws.subAt_one ⟨⟨x⟩⟩ c 0).mp q)
  rw [e] at g
  exact g
theorem ew_no {w : World} {x : List Nat} {c : Nat} {t u : Tok} (hx : x ≠ []) (h : x.getLast? ≠ some c) : Cut.Ok (VW w) (kV "str.endswith" [sv x t, sv [c] u] (.bool false)) := by
  refine kV_ok F.slot_str_endswith.plain F.entry_str_endswith ?_
  have g := gives_str_endswith ⟨⟨x⟩⟩ ⟨⟨[c]⟩⟩ t u
  have e : (decide (0 + (⟨⟨[c]⟩⟩ : Str).length ≤ (⟨⟨x⟩⟩ : Str).length) && subAt ⟨⟨x⟩⟩ ⟨⟨[c]⟩⟩ ((⟨⟨x⟩⟩ : Str).length - (⟨⟨[c]⟩⟩ : Str).length)) = false := by
    rw [Bool.eq_false_iff]
    intro q
    rw [Bool.and_eq_true, decide_eq_true_eq] at q
    have p : 0 < x.length := List.length_pos_iff.mpr hx
    have l1 : (⟨⟨x⟩⟩ : Str).length = x.length := rfl
    have l2 : (⟨⟨[c]⟩⟩ : Str).length = 1 := rfl
    have := (StrLaws.subAt_one ⟨⟨x⟩⟩ c (x.length - 1)).mp ⟨by rw [l1]; show x.length - 1 + 1 ≤ _; omega, q.2⟩
    rw [List.getLast?_eq_getElem?] at h
    exact h this
  rw [e] at g
  exact g
end Mine
end
section
open PySem PySem.W PySem.W.X PyProof.Rows PySem.Builtin PySem.Builtin.Str
set_option Elab.async false
set_option maxRecDepth 100000
namespace Mine
noncomputable def vsT : List (List Nat) → List Tok → List Value
  | s :: l, t :: ts => sv s t :: vsT l ts
  | _, _ => []
noncomputable def joinN (c : Nat) : List (List Nat) → List Nat
  | [] => []
  | [p] => p
  | p :: q :: r => p ++ c :: joinN c (q :: r)
theorem join_is (c : Nat) : ∀ l : List Str, (Str.join ⟨#[c]⟩ l).cps.toList = joinN c (l.map (·.cps.toList))
  | [] => rfl
  | [p] => rfl
  | p :: q :: r => by
    have ih := join_is c (q :: r)
    show (p ++ ⟨#[c]⟩ ++ Str.join ⟨#[c]⟩ (q :: r)).cps.toList = p.cps.toList ++ c :: joinN c ((q :: r).map (·.cps.toList))
    rw [← ih]
    simp [Str.cps_append]
theorem app_free {c : Nat} : ∀ {a b : List Nat} {x y : List Nat}, c ∉ a → c ∉ b → a ++ c :: x = b ++ c :: y → a = b ∧ x = y
  | [], [], _, _, _, _, h => ⟨rfl, by simpa using h⟩
  | [], b :: bs, _, _, _, hb, h => by
    simp only [List.nil_append, List.cons_append, List.cons.injEq] at h
    exact absurd (h.1 ▸ List.mem_cons_self ..) hb
  | a :: as, [], _, _, ha, _, h => by
    simp only [List.nil_append, List.cons_append, List.cons.injEq] at h
    exact absurd (h.1 ▸ List.mem_cons_self ..) ha
  | a :: as, b :: bs, x, y, ha, hb, h => by
    simp only [List.cons_append, List.cons.injEq] at h
    obtain ⟨e, t⟩ := app_free (fun q => ha (.tail _ q)) (fun q => hb (.tail _ q)) h.2
    exact ⟨by rw [h.1, e], t⟩
theorem join_inj {c : Nat} : ∀ {a b : List (List Nat)}, a ≠ [] → b ≠ [] → (∀ p ∈ a, c ∉ p) → (∀ p ∈ b, c ∉ p) → joinN c a = joinN c b → a = b
  | [], _, h, _, _, _, _ => absurd rfl h
  | _, [], _, h, _, _, _ => absurd rfl h
  | [p], [q], _, _, _, _, h => by rw [show p = q from h]
  | [p], q :: s :: r, _, _, hp, _, h => by
    have h : p = q ++ c :: joinN c (s :: r) := h
    exact absurd (by rw [h]; simp) (hp p (.head _))
  | q :: s :: r, [p], _, _, _, hp, h => by
    have h : q ++ c :: joinN c (s :: r) = p := h
    exact absurd (by rw [← h]; simp) (hp p (.head _))
  | p :: q :: r, p' :: q' :: r', _, _, ha, hb, h => by
    have h : p ++ c :: joinN c (q :: r) = p' ++ c :: joinN c (q' :: r') := h
    obtain ⟨e, t⟩ := app_free (ha p (.head _)) (hb p' (.head _)) h
    rw [e, join_inj (by simp) (by simp) (fun x hx => ha x (.tail _ hx)) (fun x hx => hb x (.tail _ hx)) t]
theorem split_ne (x y : Str) : Txt.split x y ≠ [] := by
  unfold Txt.split
  split
  · simp
  · split
    · simp
    · intro h
      rw [StrLaws.partsBetween_eq] at h
      obtain ⟨p, r, e⟩ := StrLaws.partsFrom_ne x y.length 0 (occurrences x y 0 x.length (x.length + 1))
      rw [e] at h
      cases h
theorem split_is {c : Nat} {l : List (List Nat)} (hl : l ≠ []) (hf : ∀ p ∈ l, c ∉ p) : Txt.split ⟨⟨joinN c l⟩⟩ ⟨#[c]⟩ = l.map fun p => (⟨⟨p⟩⟩ : Str) := by
  have j := StrLaws.join_split (⟨⟨joinN c l⟩⟩ : Str) ⟨#[c]⟩
  have j := congrArg (fun s : Str => s.cps.toList) j
  simp only [join_is] at j
  have e := join_inj (by simpa using split_ne _ _) hl (fun p hp => by
    obtain ⟨s, hs, rfl⟩ := List.mem_map.mp hp
    exact StrLaws.split_free _ c s hs) hf j
  have m : ∀ L : List Str, (L.map (·.cps.toList)).map (fun p => (⟨⟨p⟩⟩ : Str)) = L := fun L => by
    rw [List.map_map]
    exact List.map_id L
  have m := m (Txt.split ⟨⟨joinN c l⟩⟩ ⟨#[c]⟩)
  rw [e] at m
  exact m.symm
theorem strsFrom_is : ∀ (l : List (List Nat)) (k : Nat), strsFrom k (l.map fun p => (⟨⟨p⟩⟩ : Str)) = vsT l (List.range' k l.length)
  | [], _ => rfl
  | p :: l, k => by
    show Value.str _ k :: strsFrom (k + 1) _ = sv p k :: vsT l (List.range' (k + 1) l.length)
    rw [strsFrom_is l (k + 1)]
    rfl
noncomputable def kSpl (c : Nat) (x : List Nat) (t u : Tok) (l : List (List Nat)) (n : Nat) : Cut := ⟨none, .builtin "str.split" ⟨[sv x t, sv [c] u], []⟩, [], 0, 1, l.length, fun as _ => .ok (.ret (.ref (hd0 as))), fun _ _ => [], fun _ ts => [listN (vsT l ts) n], none⟩
theorem parts_of_split {c : Nat} {x : List Nat} {l : List (List Nat)} (h : Txt.split ⟨⟨x⟩⟩ ⟨#[c]⟩ = l.map fun p => (⟨⟨p⟩⟩ : Str)) (hl : 2 ≤ l.length) :
    (decide ((⟨⟨x⟩⟩ : Str).length < (⟨#[c]⟩ : Str).length) || decide (strKind ⟨⟨x⟩⟩ < strKind ⟨#[c]⟩)) = false ∧ (occurrences ⟨⟨x⟩⟩ ⟨#[c]⟩ 0 (⟨⟨x⟩⟩ : Str).length ((⟨⟨x⟩⟩ : Str).length + 1)).isEmpty = false ∧
      partsBetween ⟨⟨x⟩⟩ (occurrences ⟨⟨x⟩⟩ ⟨#[c]⟩ 0 (⟨⟨x⟩⟩ : Str).length ((⟨⟨x⟩⟩ : Str).length + 1)) (⟨#[c]⟩ : Str).length = l.map fun p => (⟨⟨p⟩⟩ : Str) := by
  unfold Txt.split at h
  split at h
  · have := congrArg List.length h
    simp at this
    omega
  · rename_i q1
    split at h
    · have := congrArg List.length h
      simp at this
      omega
    · rename_i q2
      exact ⟨by simpa using q1, by simpa using q2, h⟩
theorem kSpl_ok {w : World} {c : Nat} {t u : Tok} {l : List (List Nat)} (hl : 2 ≤ l.length) (hf : ∀ p ∈ l, c ∉ p) (hx : (joinN c l).length ≤ sizeLine) (hn : l.length ≤ sizeLine) : Cut.Ok (VW w) (kSpl c (joinN c l) t u l 0) := by
  intro A s R _ _ hS ht hR
  obtain ⟨h1, h2, h3⟩ := parts_of_split (split_is (c := c) (l := l) (by intro e; rw [e] at hl; simp at hl) hf) hl
  have M := meets_str_split_sep ⟨⟨joinN c l⟩⟩ ⟨#[c]⟩ t u h1 rfl h2 hx (by rw [h3, List.length_map]; exact hn)
  refine codeAny_builtin F.entry_str_split ?_
  rw [Around.under_plainId F.slot_str_split.plain]
  refine M pw w A R s ?_
  rw [h3]
  dsimp only
  rw [strsFrom_is l s.toks]
  exact hR _ _ _ _ ⟨[s.heap.objs.size], List.range' s.toks l.length, rfl, List.length_range', rfl, rfl⟩ ((Got.start hS).alloc (o := listN (vsT l (List.range' s.toks l.length)) 0) rfl) (by omega)
end Mine
end
section
open PySem PySem.W PySem.W.X PyProof.Rows PySem.Builtin PySem.Builtin.Str
set_option Elab.async false
set_option maxRecDepth 100000
namespace Mine
theorem seq_is {w : World} {x y : List Nat} {t u : Tok} {r : Bool} (h : (x == y) = r) : Cut.Ok (VW w) (kV "str.__eq__" [sv x t, sv y u] (.bool r)) := by
  subst h; exact kV_ok F.slot_str_eq.plain F.entry_str_eq (gives_str_eq ⟨⟨x⟩⟩ ⟨⟨y⟩⟩ t u)
theorem sne_is {w : World} {x y : List Nat} {t u : Tok} {r : Bool} (h : (x != y) = r) : Cut.Ok (VW w) (kV "str.__ne__" [sv x t, sv y u] (.bool r)) := by
  subst h; exact kV_ok F.slot_str_ne.plain F.entry_str_ne (gives_str_ne ⟨⟨x⟩⟩ ⟨⟨y⟩⟩ t u)
end Mine
end
section
open PySem PySem.W PySem.W.X PyProof.Rows PySem.Builtin PySem.Builtin.Str
set_option Elab.async false
set_option maxRecDepth 100000
namespace Mine
noncomputable def repl (c : Nat) (e : List Nat) : List Nat → List Nat
  | [] => []
  | d :: l => match Nat.beq d c with
    | true => e ++ repl c e l
    | false => d :: repl c e l
theorem repl_app (c : Nat) (e : List Nat) : ∀ a b : List Nat, repl c e (a ++ b) = repl c e a ++ repl c e b
  | [], _ => rfl
  | d :: a, b => by
    have ih := repl_app c e a b
    show (match Nat.beq d c with | true => _ | false => _) = (match Nat.beq d c with | true => _ | false => _) ++ _
    cases Nat.beq d c
    · exact congrArg _ ih
    · show e ++ repl c e (a ++ b) = (e ++ repl c e a) ++ repl c e b
      rw [ih, List.append_assoc]
theorem repl_free (c : Nat) (e : List Nat) : ∀ l : List Nat, c ∉ l → repl c e l = l
  | [], _ => rfl
  | d :: l, h => by
    have hd : Nat.beq d c = false := by
      cases q : Nat.beq d c
      · rfl
      · exact absurd (Nat.eq_of_beq_eq_true q ▸ List.mem_cons_self ..) h
    show (match Nat.beq d c with | true => _ | false => _) = _
    rw [hd]
    exact congrArg _ (repl_free c e l fun q => h (.tail _ q))
theorem repl_join (c : Nat) (e : Str) : ∀ parts : List Str, (∀ p ∈ parts, c ∉ p.cps.toList) → repl c e.cps.toList (Str.join ⟨#[c]⟩ parts).cps.toList = (Str.join e parts).cps.toList
  | [], _ => rfl
  | [p], h => repl_free c _ _ (h p (.head _))
  | p :: q :: r, h => by
    have ih := repl_join c e (q :: r) fun a ha => h a (.tail _ ha)
    show repl c _ (p ++ ⟨#[c]⟩ ++ Str.join ⟨#[c]⟩ (q :: r)).cps.toList = (p ++ e ++ Str.join e (q :: r)).cps.toList
    simp only [Str.cps_append, Array.toList_append]
    rw [repl_app, repl_app, ih, repl_free c _ _ (h p (.head _))]
    have : repl c e.cps.toList [c] = e.cps.toList := by
      show (match Nat.beq c c with | true => _ | false => _) = _
      rw [Nat.beq_refl]
      exact List.append_nil _
    rw [this]
theorem replace_is (x e : Str) (c : Nat) : (Txt.replace x ⟨#[c]⟩ e).cps.toList = repl c e.cps.toList x.cps.toList := by
  rw [StrLaws.replace_one, ← repl_join c e _ (StrLaws.split_free x c), StrLaws.join_split]
theorem has_is {w : World} {x : List Nat} {c : Nat} {t u : Tok} {r : Bool} (h : decide (c ∈ x) = r) : Cut.Ok (VW w) (kV "str.__contains__" [sv x t, sv [c] u] (.bool r)) := by
  subst h
  have g := gives_str_contains ⟨⟨x⟩⟩ ⟨⟨[c]⟩⟩ t u
  rw [StrLaws.found_one ⟨⟨x⟩⟩ c] at g
  exact kV_ok F.slot_str_contains.plain F.entry_str_contains g
theorem joinN_len (c : Nat) : ∀ l : List (List Nat), l.length ≤ (joinN c l).length + 1
  | [] => Nat.zero_le _
  | [p] => by simp
  | p :: q :: r => by
    have := joinN_len c (q :: r)
    show (q :: r).length + 1 ≤ (p ++ c :: joinN c (q :: r)).length + 1
    simp only [List.length_append, List.length_cons] at this ⊢
    omega
theorem pieces {x : List Nat} {c : Nat} (hc : c ∈ x) : ∃ l : List (List Nat), Txt.split ⟨⟨x⟩⟩ ⟨#[c]⟩ = l.map (fun p => (⟨⟨p⟩⟩ : Str)) ∧ 2 ≤ l.length ∧ l.length ≤ x.length + 1 := by
  have j := congrArg (fun s : Str => s.cps.toList) (StrLaws.join_split (⟨⟨x⟩⟩ : Str) ⟨#[c]⟩)
  simp only [join_is] at j
  have fr := StrLaws.split_free (⟨⟨x⟩⟩ : Str) c
  have nn := split_ne (⟨⟨x⟩⟩ : Str) ⟨#[c]⟩
  generalize Txt.split (⟨⟨x⟩⟩ : Str) ⟨#[c]⟩ = S at j fr nn
  refine ⟨S.map (·.cps.toList), ?_, ?_, ?_⟩
  · rw [List.map_map]
    exact (List.map_id S).symm
  · match S, nn with
    | [p], _ =>
      have j : p.cps.toList = x := j
      exact absurd (j ▸ hc) (fr p (.head _))
    | _ :: _ :: _, _ => simp
  · have := joinN_len c (S.map (·.cps.toList))
    rw [j] at this
    exact this
theorem rep_ok {w : World} {x e : List Nat} {c : Nat} {t a : Tok} (hc : c ∈ x) (he : [c] ≠ e) (hx : x.length + x.length * e.length ≤ sizeLine) (hr : (repl c e x).length ≤ sizeLine) : Cut.Ok (VW w) (kS "str.replace" [sv x t, sv [c] (a + 1), sv e (a + 2)] ⟨⟨repl c e x⟩⟩) := by
  obtain ⟨l, hs, h2, hl⟩ := pieces hc
  obtain ⟨_, ne, hp⟩ := parts_of_split hs h2
  have oc : (occurrences ⟨⟨x⟩⟩ ⟨#[c]⟩ 0 (⟨⟨x⟩⟩ : Str).length ((⟨⟨x⟩⟩ : Str).length + 1)).length ≤ x.length := by
    have := congrArg List.length hp
    rw [List.length_map] at this
    simp only [partsBetween, List.length_map, List.length_zip, List.length_cons, List.length_append, List.length_nil] at this
    omega
  have lx : (⟨⟨x⟩⟩ : Str).length = x.length := rfl
  have le : (⟨⟨e⟩⟩ : Str).length = e.length := rfl
  have cond : ((occurrences ⟨⟨x⟩⟩ ⟨#[c]⟩ 0 (⟨⟨x⟩⟩ : Str).length ((⟨⟨x⟩⟩ : Str).length + 1)).isEmpty || ((⟨#[c]⟩ : Str).length == 0 && (⟨⟨e⟩⟩ : Str).length == 0)) = false := by rw [ne]; rfl
  have g := gives_str_replace ⟨⟨x⟩⟩ ⟨#[c]⟩ ⟨⟨e⟩⟩ t (a + 1) (a + 2) (fun _ => ⟨by simp, by simp, by
      rw [beq_eq_false_iff_ne]
      intro q
      exact he (congrArg (fun s : Str => s.cps.toList) q), by
      show decide (_ > sizeLine) = false
      rw [decide_eq_false_iff_not, lx, le]
      have := Nat.mul_le_mul_right e.length oc
      rw [lx] at this
      omega⟩)
  have rp := replace_is ⟨⟨x⟩⟩ ⟨⟨e⟩⟩ c
  unfold Txt.replace at rp
  rw [cond, if_neg Bool.false_ne_true] at g rp
  have q : glued ⟨⟨e⟩⟩ (partsBetween ⟨⟨x⟩⟩ (occurrences ⟨⟨x⟩⟩ ⟨#[c]⟩ 0 (⟨⟨x⟩⟩ : Str).length ((⟨⟨x⟩⟩ : Str).length + 1)) (⟨#[c]⟩ : Str).length) = ⟨⟨repl c e x⟩⟩ := Str.ext' (Array.toList_inj.mp rp)
  rw [q] at g
  exact kS_ok hr F.slot_str_replace.plain F.entry_str_replace g
end Mine
end
section
open PySem PySem.W PySem.W.X PyProof.Rows
set_option Elab.async false
set_option maxRecDepth 100000
namespace Mine
section
variable {V : SV} {fr : Option (List Env)} {need : Nat} {c : Code} {pre : Dyn} {P : Result → Dyn → Prop}
theorem SpecX.try1 {env : Env} {body : List Stmt} {h₀ : ExceptHandler} {hs : List ExceptHandler} {pos : Pos} (h : SpecX V fr need c (execs body env) pre P) (hn : ∀ r L, P r L → ∃ v, r = .ok (.ret v)) : SpecX V fr need c (execs [.Try body (h₀ :: hs) [] [] pos] env) pre P := by
  intro A s R hA hF hS ht hR
  have X := h A s (fun r s' => ∃ v, r = .ok (.ret v) ∧ R r s') hA hF hS ht fun r L h' tk' hp G t' => by
    obtain ⟨v, e⟩ := hn r L hp
    exact ⟨v, e, hR r L h' tk' hp G t'⟩
  show wpOwn _ A c (exec (.Try body (h₀ :: hs) [] [] pos) env >>= fun f => match f with
    | .next => execs [] env
    | f => pure f) _ _ s
  refine wpOwn_bind ?_
  show wpOwn _ A c (standAt pos >>= fun _ => tryStmt false (execs body env) (h₀ :: hs) (execs [] env) [] env) _ _ s
  refine wpOwn_bind (wpOwn_of_wpAny (wpAny_standAt ?_))
  unfold tryStmt
  simp only [List.isEmpty_nil, if_true]
  refine wpOwn_bind ?_
  intro Γ p hc hΓ
  have Y := X Γ p hc hΓ
  rw [Sem.wp_attempt]
  refine Sem.wp_mono _ Γ _ (fun f p' s' y => ?_) (fun e p' s' y => ?_) p s Y
  · obtain ⟨v, e, y⟩ := y
    cases e
    exact fun _ _ _ _ => (fun _ _ _ _ => y)
  · obtain ⟨v, e, _⟩ := y
    cases e
end
end Mine
end
section
open PySem PySem.W PySem.W.X PyProof.Rows PySem.Builtin PySem.Builtin.Str
set_option Elab.async false
set_option maxRecDepth 100000
namespace Mine
noncomputable def escs : List (Nat × List Nat) → List Nat → List Nat
  | [], x => x
  | p :: l, x => escs l (repl p.1 p.2 x)
theorem repl_ge {c : Nat} {e : List Nat} (he : e ≠ []) : ∀ x : List Nat, x.length ≤ (repl c e x).length
  | [] => Nat.le_refl _
  | d :: x => by
    have ih := repl_ge (c := c) he x
    have : 0 < e.length := List.length_pos_iff.mpr he
    show _ ≤ (match Nat.beq d c with | true => e ++ repl c e x | false => d :: repl c e x).length
    cases Nat.beq d c <;> simp <;> omega
theorem escs_ge : ∀ (l : List (Nat × List Nat)) (x : List Nat), (∀ p ∈ l, p.2 ≠ []) → x.length ≤ (escs l x).length
  | [], _, _ => Nat.le_refl _
  | p :: l, x, h => Nat.le_trans (repl_ge (h p (.head _)) x) (escs_ge l _ fun q hq => h q (.tail _ hq))
theorem drop_step : ∀ (l : List Stmt) (i : Nat), i < l.length → l.drop i = [stAt l i] ++ l.drop (i + 1)
  | [], _, h => absurd h (Nat.not_lt_zero _)
  | _ :: _, 0, _ => rfl
  | _ :: l, i + 1, h => drop_step l i (Nat.lt_of_succ_lt_succ h)
noncomputable def eF (P : Params) (k : Tok) (x : List Nat) (t : Tok) : Obj := ⟨.type "frame", none, .dict ⟨[en P ⟨⟨[116, 101, 120, 116]⟩⟩ k (sv x t)]⟩ 1, ⟨[]⟩⟩
noncomputable def tryB : Stmt → List Stmt
  | .Try b _ _ _ _ => b
  | _ => []
noncomputable def bodyOf (o : Obj) : List Stmt := (entOf o 0 0).body
theorem esc_all {V : SV} {P : Params} {c₀ : Code} {env : Env} {body : List Stmt} {L : Addr} {k : Tok} : ∀ (l : List (Nat × List Nat)) (i : Nat) (x : List Nat) (t : Tok), i + l.length < body.length → (∀ p ∈ l, p.2 ≠ [] ∧ p.2.length ≤ 7) →
    (∀ j p, l[j]? = some p → ∀ x t, x.length * 8 ≤ sizeLine → SpecX V none 8 c₀ (execs [stAt body (i + j)] env) [(L, eF P k x t)] fun r D => r = .ok .next ∧ ∃ t', D = [(L, eF P k (repl p.1 p.2 x) t')]) →
    (∀ x t, SpecX V none 8 c₀ (execs [stAt body (i + l.length)] env) [(L, eF P k x t)] fun r D => r = .ok (.ret (sv x t)) ∧ D = [(L, eF P k x t)]) → (escs l x).length * 8 ≤ sizeLine →
    SpecX V none 8 c₀ (execs (body.drop i) env) [(L, eF P k x t)] fun r D => ∃ t', r = .ok (.ret (sv (escs l x) t')) ∧ D = [(L, eF P k (escs l x) t')]
  | [], i, x, t, hi, _, _, ret, _ => by
    rw [drop_step body i (by simpa using hi), execs_append]
    refine (ret x t).seq fun r D ⟨e, d⟩ => ⟨_, e, ?_⟩
    intro A s R hA hF hS ht hR
    subst d
    exact wpOwn_of_wpAny (wpAny_pure (hR _ _ s.heap s.toks ⟨t, rfl, rfl⟩ (Got.start hS) ht))
  | p :: l, i, x, t, hi, hp, one, ret, hb => by
    simp only [List.length_cons] at hi ret
    rw [drop_step body i (by omega)]
    have gx : x.length ≤ (escs (p :: l) x).length := escs_ge _ _ fun q hq => (hp q hq).1
    refine SpecX.app (P₁ := fun D => ∃ t', D = [(L, eF P k (repl p.1 p.2 x) t')]) (one 0 p rfl x t (Nat.le_trans (Nat.mul_le_mul_right 8 gx) hb)) fun D hD => ?_
    obtain ⟨t', rfl⟩ := hD
    exact esc_all l (i + 1) (repl p.1 p.2 x) t' (by omega) (fun q hq => hp q (.tail _ hq)) (fun j q hj => by
      have := one (j + 1) q hj
      rw [show i + (j + 1) = i + 1 + j by omega] at this
      exact this) (by rw [show i + 1 + l.length = i + (l.length + 1) by omega]; exact ret) hb
theorem Spec.drop {V : SV} {fr : Option (List Env)} {n : Nat} {c : Code} {pre : Dyn} {P Q : Result → Dyn → Prop} (h : Spec V fr n c pre P) (hq : ∀ r L, P r L → ∃ L' R', L.Perm (L' ++ R') ∧ Q r L') : Spec V fr n c pre Q := by
  intro A s R hA hF hS ht hR
  refine h A s R hA hF hS ht fun r L h' tk' hp G ht' => ?_
  obtain ⟨L', R', e, q⟩ := hq r L hp
  exact hR r L' h' tk' q (G.picks e) ht'
end Mine
end
section
open PySem PySem.W PySem.W.X PyProof.Rows
set_option Elab.async false
set_option maxRecDepth 100000
namespace Mine
noncomputable abbrev DL := List (List Nat × Tok × Value)
noncomputable def dEn (P : Params) : DL → List DictEntry
  | [] => []
  | p :: l => en P ⟨⟨p.1⟩⟩ p.2.1 p.2.2 :: dEn P l
noncomputable def dLook : DL → List Nat → Option Value
  | [], _ => none
  | p :: l, x => if p.1 = x then some p.2.2 else dLook l x
noncomputable def dlO (P : Params) (l : DL) (n : Nat) : Obj := dictO (dEn P l) n
theorem is_st {w : World} {x y : List Nat} {t : Tok} : (strKind pw w).is ⟨⟨x⟩⟩ (.str ⟨⟨y⟩⟩ t) = decide (y = x) := by
  show ((⟨⟨y⟩⟩ : Str) == ⟨⟨x⟩⟩) = _
  rw [Bool.eq_iff_iff, beq_iff_eq, decide_eq_true_eq]
  exact ⟨fun h => congrArg (fun s : Str => s.cps.toList) h, fun h => by rw [h]⟩
theorem dEn_keys {w : World} : ∀ (l : DL) (e : DictEntry), e ∈ dEn w.params l → ∃ k, (strKind pw w).is k e.key = true ∧ e.hash = (strKind pw w).hash k
  | p :: l, e, h => by
    rcases List.mem_cons.mp h with rfl | h
    · exact ⟨⟨⟨p.1⟩⟩, is_st.trans (decide_eq_true rfl), rfl⟩
    · exact dEn_keys l e h
theorem dEn_find {w : World} : ∀ (l : DL) (k : Str), ((dEn w.params l).find? fun e => (strKind pw w).is k e.key).map (·.val) = dLook l k.cps.toList
  | [], _ => rfl
  | p :: l, k => by
    have ih := dEn_find (w := w) l k
    show (List.find? _ (en w.params ⟨⟨p.1⟩⟩ p.2.1 p.2.2 :: dEn w.params l)).map _ = if p.1 = k.cps.toList then _ else _
    rw [List.find?_cons]
    have e : (strKind pw w).is k (en w.params ⟨⟨p.1⟩⟩ p.2.1 p.2.2).key = decide (p.1 = k.cps.toList) := by
      obtain ⟨⟨k⟩⟩ := k
      exact is_st
    rw [e]
    by_cases q : p.1 = k.cps.toList
    · rw [if_pos q, decide_eq_true q]
      rfl
    · rw [if_neg q, decide_eq_false q]
      exact ih
theorem mapOf_dl {w : World} {h : Heap} {d : Addr} {l : DL} {n : Nat} (ho : h.get? d = some (dlO w.params l n)) : h.MapOf (strKind pw w) d fun k => dLook l k.cps.toList := by
  refine ⟨_, ⟨dEn w.params l⟩, n, ho, ⟨rfl, rfl, rfl⟩, rfl, fun e he => dEn_keys l e (by simpa using he), fun k => ?_⟩
  show findBy _ _ k = dLook l k.cps.toList
  rw [← dEn_find (w := w) l k]
  unfold findBy
  simp
noncomputable def kDG (P : Params) (d : Addr) (l : DL) (n : Nat) (x : List Nat) (t : Tok) (v : Value) : Cut := ⟨none, .builtin "dict.__getitem__" ⟨[.ref d, sv x t], []⟩, [(d, dlO P l n)], 0, 0, 0, fun _ _ => .ok (.ret v), fun _ _ => [dlO P l n], fun _ _ => [], none⟩
noncomputable def kDC (P : Params) (d : Addr) (l : DL) (n : Nat) (x : List Nat) (t : Tok) (r : Bool) : Cut := ⟨none, .builtin "dict.__contains__" ⟨[.ref d, sv x t], []⟩, [(d, dlO P l n)], 0, 0, 0, fun _ _ => .ok (.ret (.bool r)), fun _ _ => [dlO P l n], fun _ _ => [], none⟩
theorem kDG_ok {w : World} {d : Addr} {l : DL} {n : Nat} {x : List Nat} {t : Tok} {v : Value} (h : dLook l x = some v) : Cut.Ok (VW w) (kDG w.params d l n x t v) := by
  intro A s R _ _ hS ht hR
  have ho := hS.has _ (.head _)
  have M := meets_dict_getitem (prog := pw) (w := w) (knd := strKind pw w) (k := (⟨⟨x⟩⟩ : Str)) (key := sv x t) (d := d) (is_st.trans (decide_eq_true rfl))
  refine codeAny_builtin F.entry_dict_getitem ?_
  rw [Around.under_plainId (by decide +kernel)]
  exact M _ R s ⟨_, v, mapOf_dl ho, h, hR _ _ s.heap (s.toks + 1) ⟨[], [], rfl, rfl, rfl, rfl⟩ (Got.start hS) (Nat.succ_pos _)⟩
theorem kDC_ok {w : World} {d : Addr} {l : DL} {n : Nat} {x : List Nat} {t : Tok} {r : Bool} (h : (dLook l x).isSome = r) : Cut.Ok (VW w) (kDC w.params d l n x t r) := by
  intro A s R _ _ hS ht hR
  have ho := hS.has _ (.head _)
  have ge : 932 ≤ d := hS.ge _ (.head _)
  have M := meets_dict_contains (prog := pw) (w := w) (knd := strKind pw w) (k := (⟨⟨x⟩⟩ : Str)) (key := sv x t) (d := d) (is_st.trans (decide_eq_true rfl)) (by
    rw [beq_eq_false_iff_ne]
    intro e
    rw [e] at ge
    exact absurd ge (by decide))
  refine codeAny_builtin F.entry_dict_contains ?_
  rw [Around.under_plainId (by decide +kernel)]
  subst h
  exact M _ R s ⟨_, mapOf_dl ho, hR _ _ s.heap (s.toks + 1) ⟨[], [], rfl, rfl, rfl, rfl⟩ (Got.start hS) (Nat.succ_pos _)⟩
end Mine
end
section
open PySem PySem.W PySem.W.X PyProof.Rows PySem.Builtin PySem.Builtin.Str
set_option Elab.async false
set_option maxRecDepth 100000
namespace Mine
theorem spec_run_fr {w : World} {fr : Option (List Env)} {need n : Nat} {c : Code} {pre : Dyn} (R : Dyn) {z : Of Fini} {hs : List Nat} {ks : List (Of Cut)} {es : List (Of Ent)} {P : Result → Dyn → Prop}
    (H : ∀ ρ τ, Both (runFr w fr ρ τ n z hs ks es need c pre)) (hk : ∀ k ∈ ks, ∀ ρ τ, Cut.Ok (VW w) (k ρ τ))
    (hP : ∀ ρ τ, match (z ρ τ).out with
      | .inl r => P r ((z ρ τ).picks ++ R)
      | .inr c' => Spec (VW w) fr need c' ((z ρ τ).picks ++ R) P) : Spec (VW w) fr need c (pre ++ R) P := by
  intro A s Rr hA hF hS ht hR
  obtain ⟨h, g, d, tk, os⟩ := s
  have G0 := Got.start hS
  have S1 : Shows (VW w) pre h := G0.shows (L := pre) (R := R) (.refl _)
  have ends : Ends (VW w) A Rr (pre.map (·.1)) h g d os z := by
    intro ρ τ h' tk' G ht'
    have C := G0.cut (.refl _) G
    have p := hP ρ τ
    cases e : (z ρ τ).out with
    | inl r =>
      rw [e] at p
      exact hR r _ h' tk' p C ht'
    | inr c' =>
      rw [e] at p
      intro _
      have perm : ((z ρ τ).picks ++ R).Perm (((z ρ τ).picks ++ R) ++ []) := by rw [List.append_nil]
      exact p A ⟨h', g, d, tk', os⟩ Rr hA hF (C.shows perm) ht' fun r L h'' tk'' hp C' => hR r L h'' tk'' hp (C.cut perm C').app0
  have m := sim_sound (VW_ok w) hF ends n hs ks es need .base c ((VW w).den c) pre 0 0 [] [] (fun _ => 0) (fun _ => 0) h tk rfl hA (Got.start S1) ht hk fun ρ τ _ _ => H ρ τ
  have m' : wpOwn (model (VW w).prog (VW w).w) A c ((VW w).den c) (postC (VW w).prog (VW w).w A Rr) (postE Rr) ⟨h, g, d, tk, os⟩ := m
  rw [← den_at w c] at m'
  exact y_code _ _ _ _ _ _ m'
theorem Spec.ord {V : SV} {fr : Option (List Env)} {n : Nat} {c : Code} {pre pre' : Dyn} {P : Result → Dyn → Prop} (p : pre'.Perm pre) (h : Spec V fr n c pre P) : Spec V fr n c pre' P :=
  h.perm p fun r L hp => ⟨L, .refl _, hp⟩
theorem Spec.frame {V : SV} {fr : Option (List Env)} {n : Nat} {c : Code} {pre : Dyn} {P : Result → Dyn → Prop} (R : Dyn) (h : Spec V fr n c pre P) : Spec V fr n c (pre ++ R) fun r L => ∃ L', P r L' ∧ L = L' ++ R := by
  intro A s Rr hA hF hS ht hR
  have G := Got.start hS
  exact h A s Rr hA hF (G.shows (R := R) (.refl _)) ht fun r L h' tk' hp C => hR r (L ++ R) h' tk' ⟨L, hp, rfl⟩ (G.cut (.refl _) C)
theorem gi_ok {w : World} {x : List Nat} {t u : Tok} {c : Nat} : Cut.Ok (VW w) (kS "str.__getitem__" [sv (c :: x) t, .int 0 u] ⟨⟨[c]⟩⟩) := by
  refine kS_ok (Nat.le_trans (show 1 ≤ 1 by decide) (by decide)) F.slot_str_getitem.plain F.entry_str_getitem (gives_str_getitem ⟨⟨c :: x⟩⟩ 0 t u c (by decide) ?_)
  have e : seqIndex? 0 (⟨⟨c :: x⟩⟩ : Str).length = some 0 := by
    unfold seqIndex?
    have : (⟨⟨c :: x⟩⟩ : Str).length = x.length + 1 := rfl
    rw [this]
    simp
  rw [e]
  rfl
theorem slice1 (c : Nat) (x : List Nat) : Txt.slice ⟨⟨c :: x⟩⟩ (some 1) none = ⟨⟨x⟩⟩ := by
  rw [slice_from_eq (b := ((⟨⟨c :: x⟩⟩ : Str).length : Int)) (by decide) (by have : (⟨⟨c :: x⟩⟩ : Str).length = x.length + 1 := rfl; omega) rfl]
  have : (⟨⟨c :: x⟩⟩ : Str).length = x.length + 1 := rfl
  rw [this, show (((x.length + 1 : Nat) : Int) - 1).toNat = x.length by omega]
  show (⟨(List.take x.length (List.drop 1 (c :: x))).toArray⟩ : Str) = _
  rw [List.drop_succ_cons, List.drop_zero, List.take_length]
theorem sl1_ok {w : World} {c : Nat} {x : List Nat} {tx : Tok} {a : Addr} {t : Tok} (hx : x.length + 1 ≤ sizeLine) : Cut.Ok (VW w) (kSl (c :: x) tx a (some (1, t)) none x) :=
  kSl_ok (by simpa using hx) (slice1 c x)
end Mine
end
section
open PySem PySem.W PySem.W.X PyProof.Rows
set_option Elab.async false
set_option maxRecDepth 100000
namespace Mine
noncomputable def rdK (l : List Nat) (p : Nat) (tb tp : Tok) (y : List Nat) : List (Of Cut) := [
  fun _ _ => kI "len" [.str ⟨⟨l⟩⟩ tb] (.ofNat l.length),
  fun _ τ => kV "int.__ge__" [.int (.ofNat p) tp, .int (.ofNat l.length) (τ 15)] (.bool false),
  fun _ τ => kV "int.__lt__" [.int (.ofNat (p + 1)) (τ 18), .int (.ofNat l.length) (τ 15)] (.bool true),
  fun ρ τ => kSl l tb (ρ 3) (some (.ofNat p, tp)) (some (.ofNat (p + 1), τ 19)) y]
noncomputable def rdZ (P : Params) (T : Nat → Tok) (a d : Addr) (l : List Nat) (p : Nat) (tb : Tok) (y : List Nat) : Of Fini := fun _ τ => ⟨.inl (.ok (.ret (.str ⟨⟨y⟩⟩ (τ 24)))), [(a, instO 597 d), (d, ioD P T l tb (p + 1) (τ 19))]⟩
noncomputable def rdK1 (l : List Nat) (p : Nat) (tb tp : Tok) (y : List Nat) : List (Of Cut) := [
  fun _ _ => kI "len" [.str ⟨⟨l⟩⟩ tb] (.ofNat l.length),
  fun _ τ => kV "int.__ge__" [.int (.ofNat p) tp, .int (.ofNat l.length) (τ 15)] (.bool false),
  fun _ τ => kV "int.__lt__" [.int (.ofNat (p + 1)) (τ 18), .int (.ofNat l.length) (τ 15)] (.bool false),
  fun ρ τ => kSl l tb (ρ 3) (some (.ofNat p, tp)) (some (.ofNat l.length, τ 15)) y]
noncomputable def rdZ1 (P : Params) (T : Nat → Tok) (a d : Addr) (l : List Nat) (tb : Tok) (y : List Nat) : Of Fini := fun _ τ => ⟨.inl (.ok (.ret (.str ⟨⟨y⟩⟩ (τ 22)))), [(a, instO 597 d), (d, ioD P T l tb l.length (τ 15))]⟩
noncomputable def rdK2 (l : List Nat) (p : Nat) (tb tp : Tok) : List (Of Cut) := [
  fun _ _ => kI "len" [.str ⟨⟨l⟩⟩ tb] (.ofNat l.length),
  fun _ τ => kV "int.__ge__" [.int (.ofNat p) tp, .int (.ofNat l.length) (τ 15)] (.bool true)]
noncomputable def rdZ2 (P : Params) (T : Nat → Tok) (a d : Addr) (l : List Nat) (p : Nat) (tb tp : Tok) : Of Fini := fun _ τ => ⟨.inl (.ok (.ret (.str ⟨⟨[]⟩⟩ (τ 17)))), [(a, instO 597 d), (d, ioD P T l tb p tp)]⟩
noncomputable def kRead (P : Params) (T : Nat → Tok) (a d : Addr) (l : List Nat) (p : Nat) (tb tp t1 : Tok) (y : List Nat) (p' : Nat) : Cut :=
  ⟨none, .call (.ref 543) ⟨[.ref a, .int 1 t1], []⟩, [(a, instO 597 d), (d, ioD P T l tb p tp)], 4, 0, 2, fun _ ts => .ok (.ret (.str ⟨⟨y⟩⟩ (hd0 ts))), fun _ ts => [instO 597 d, ioD P T l tb p' (hd1 ts)], fun _ _ => [], none⟩
end Mine
end
section
open PySem PySem.W PySem.W.X PyProof.Rows
set_option Elab.async false
set_option maxRecDepth 100000
namespace Mine
noncomputable def whT : Stmt → Expr
  | .While t _ _ _ => t
  | _ => .Constant .none 0 ⟨0, 0, 0, 0⟩
noncomputable def whB : Stmt → List Stmt
  | .While _ b _ _ => b
  | _ => []
noncomputable def whE : Stmt → List Stmt
  | .While _ _ e _ => e
  | _ => []
noncomputable def rtS : Stmt := stAt (fnB (stAt (clsB (stAt pw.main.body 23)) 6)) 2
noncomputable def rtEnv (P : Params) (L : Addr) : Env := (entOf (o700 P) 700 L).env
noncomputable def rtC (P : Params) (L : Addr) : Code := .whileLoop (whT rtS) (whB rtS) (whE rtS) (rtEnv P L)
section
variable (P : Params) (T TI E : Nat → Tok) (L a d io dio q1 q2 : Addr) (l : List Nat)
noncomputable def rtD (fr : Obj) (st tk : Value) (p : Nat) (tb tp : Tok) : Dyn := [(L, fr), (a, instO 732 d), (d, lexD P T io q1 q2 st tk), (io, instO 597 dio), (dio, ioD P TI l tb p tp)]
noncomputable def t0K (p : Nat) (tb tp : Tok) : List (Of Cut) := [fun _ τ => kRead P TI io dio l p tb tp (τ 6) [47] (p + 1)]
noncomputable def t0Z (te tb : Tok) (p : Nat) : Of Fini := fun _ τ => ⟨.inr (rtC P L), rtD P T TI L a d io dio q1 q2 l (rtF1 P E a te (τ 9) (chS 47 (τ 7))) (chS 97 (τ 30)) (chS 47 (τ 7)) (p + 1) tb (τ 8)⟩
noncomputable def tcK (p : Nat) (tb tp ts : Tok) (c : Nat) (u : List Nat) (tt : Tok) : List (Of Cut) := [fun _ τ => kRead P TI io dio l p tb tp (τ 6) [c] (p + 1), fun ρ τ => kTC (ρ 1) [([97], τ 21), ([99], τ 22)] [97] ts true, fun _ τ => kS "str.__add__" [.str ⟨⟨47 :: u⟩⟩ tt, .str ⟨⟨[c]⟩⟩ (τ 7)] ⟨⟨47 :: (u ++ [c])⟩⟩]
noncomputable def tcZ (j : Nat) (te kn tb ts : Tok) (c : Nat) (u : List Nat) (p : Nat) : Of Fini := fun _ τ => ⟨.inr (rtC P L), rtD P T TI L a d io dio q1 q2 l (rtF1 P E a te kn (chS c (τ 7))) (chS 97 ts) (.str ⟨⟨47 :: (u ++ [c])⟩⟩ (τ j)) (p + 1) tb (τ 8)⟩
noncomputable def tbK (p : Nat) (tb tp ts tt : Tok) (u : List Nat) : List (Of Cut) := [fun _ τ => kRead P TI io dio l p tb tp (τ 6) [32] (p + 1), fun ρ τ => kTC (ρ 1) [([97], τ 21), ([99], τ 22)] [97] ts true, fun _ _ => kI "len" [.str ⟨⟨47 :: u⟩⟩ tt] (.ofNat (47 :: u).length)]
noncomputable def tbZ (j : Nat) (te kn tb tt : Tok) (u : List Nat) (p : Nat) : Of Fini := fun _ τ => ⟨.inl (.ok .next), rtD P T TI L a d io dio q1 q2 l (rtF1 P E a te kn (chS 32 (τ 7))) (chS 32 (τ j)) (.str ⟨⟨47 :: u⟩⟩ tt) (p + 1) tb (τ 8)⟩
noncomputable def teK (p : Nat) (tb tp ts : Tok) : List (Of Cut) := [fun _ τ => kRead P TI io dio l p tb tp (τ 6) [] p, fun ρ τ => kTC (ρ 1) [([97], τ 21), ([99], τ 22)] [97] ts true]
noncomputable def tnK (p : Nat) (tb tp : Tok) : List (Of Cut) := [fun _ τ => kRead P TI io dio l p tb tp (τ 6) [] p]
noncomputable def teZ (te kn tb tt : Tok) (u : List Nat) (p : Nat) : Of Fini := fun _ τ => ⟨.inl (.ok .next), rtD P T TI L a d io dio q1 q2 l (rtF1 P E a te kn (.str ⟨⟨[]⟩⟩ (τ 7))) .none (.str ⟨⟨47 :: u⟩⟩ tt) p tb (τ 8)⟩
noncomputable def tnZ (te tb : Tok) (p : Nat) : Of Fini := fun _ τ => ⟨.inl (.ok .next), rtD P T TI L a d io dio q1 q2 l (rtF1 P E a te (τ 9) (.str ⟨⟨[]⟩⟩ (τ 7))) .none (.str ⟨⟨[]⟩⟩ (τ 14)) p tb (τ 8)⟩
end
end Mine
end
section
open PySem PySem.W PySem.W.X PyProof.Rows
set_option Elab.async false
set_option maxRecDepth 100000
namespace Mine
noncomputable def t0_h : List Nat := [1, 2, 0, 0, 0, 0, 2, 0, 0, 0, 0, 0, 0, 0, 0, 0, 0, 0, 0, 0, 0, 0, 1, 0, 1, 3, 0, 0, 0, 0, 3, 0, 0, 0, 3, 3, 0, 4, 0, 0, 0, 2, 3, 0, 0, 0, 0, 3, 0, 0, 0, 3, 3, 0, 4, 5, 0, 0, 0, 0, 0, 0, 0, 5, 0, 0, 0, 0, 0, 0, 0, 5, 0, 0, 0, 0, 5, 6, 0, 1, 2, 4, 4, 4, 3, 4, 0, 0, 4, 5, 0, 0, 0, 0, 5, 0, 0, 0, 5, 5, 0, 6, 0, 0, 4, 5, 0, 0, 0, 0, 5, 0, 0, 0, 5, 5, 0, 6, 4, 5, 0, 0, 0, 0, 5, 0, 0, 0, 5, 5, 0, 6, 0, 0, 4, 0, 0, 0, 4, 4, 5, 0, 0, 0, 0, 5, 0, 0, 0, 5, 5, 0, 6, 0, 0, 4, 4, 5, 0, 0, 0, 0, 5, 0, 0, 0, 5, 5, 0, 6, 0, 0, 4, 5, 0, 0, 0, 0, 5, 0, 0, 0, 5, 5, 0, 6, 4, 4, 5, 0, 0, 0, 0, 5, 0, 0, 0, 5, 5, 0, 6, 0, 0, 4, 4, 5, 0, 0, 0, 0, 5, 0, 0, 0, 5, 5, 0, 6, 0, 0, 4, 4, 5, 0, 0, 0, 0, 5, 0, 0, 0, 0, 0, 0, 0, 0, 0, 0, 0, 0, 0, 0, 0, 1, 0, 1, 6, 0, 0, 0, 0, 6, 0, 0, 0, 6, 6, 0, 7, 0, 0, 5, 5, 6, 0, 0, 0, 0, 6, 0, 0, 0, 6, 6, 0, 7, 0, 0, 5, 6, 0, 0, 0, 0, 6, 0, 0, 0, 6, 6, 0, 7, 5, 5, 6, 0, 0, 0, 0, 6, 0, 0, 6, 0, 6, 0, 0, 0, 6, 0, 7, 6, 7, 5, 6, 0, 0, 0, 0, 6, 0, 0, 6, 0, 6, 0, 0, 0, 6, 0, 7, 6, 7, 2, 5, 4, 4, 4, 1, 1]
noncomputable def t0_e (w : World) : List (Of Ent) := [fun ρ _ => entOf (o663 w.params) 663 (ρ 0), fun ρ _ => entOf (o663 w.params) 663 (ρ 1)]
noncomputable def tc47_h : List Nat := [1, 2, 0, 0, 0, 0, 2, 0, 0, 0, 0, 0, 0, 0, 0, 0, 0, 0, 0, 0, 0, 0, 1, 0, 1, 3, 0, 0, 0, 0, 3, 0, 0, 0, 3, 3, 0, 4, 0, 0, 0, 2, 3, 0, 0, 0, 0, 3, 0, 0, 0, 3, 3, 0, 4, 5, 0, 0, 0, 0, 0, 0, 0, 5, 0, 0, 0, 0, 0, 0, 0, 5, 0, 0, 0, 0, 5, 6, 0, 1, 2, 4, 4, 4, 3, 4, 0, 0, 4, 5, 0, 0, 0, 0, 5, 0, 0, 0, 5, 5, 0, 6, 0, 0, 4, 5, 0, 0, 0, 0, 5, 0, 0, 0, 5, 5, 0, 6, 4, 5, 0, 0, 0, 0, 5, 0, 0, 0, 5, 5, 0, 6, 0, 0, 4, 5, 0, 0, 0, 0, 5, 0, 0, 0, 5, 5, 0, 6, 4, 5, 0, 0, 0, 0, 5, 0, 0, 0, 5, 5, 0, 6, 0, 0, 4, 5, 0, 0, 0, 0, 5, 0, 0, 0, 5, 5, 0, 6, 4, 5, 0, 0, 0, 0, 5, 0, 0, 0, 5, 5, 0, 6, 0, 0, 4, 5, 0, 0, 0, 0, 5, 0, 0, 0, 5, 5, 0, 6, 1, 1, 0, 1, 1, 1, 0, 5, 0, 0, 0, 5, 5, 6, 0, 0, 0, 0, 6, 0, 0, 0, 6, 6, 0, 7, 0, 0, 5, 5, 6, 0, 0, 0, 0, 6, 0, 0, 0, 6, 6, 0, 7, 0, 0, 5, 6, 0, 0, 0, 0, 6, 0, 0, 0, 6, 6, 0, 7, 0, 0, 5, 6, 0, 0, 0, 0, 6, 0, 0, 0, 6, 6, 0, 7, 5, 5, 6, 0, 0, 0, 0, 6, 0, 0, 0, 6, 6, 0, 7, 0, 0, 5, 6, 0, 0, 0, 0, 6, 0, 0, 0, 6, 6, 0, 7, 5, 5, 6, 0, 0, 0, 0, 6, 0, 0, 0, 6, 6, 0, 7, 0, 0, 5, 5, 6, 0, 0, 0, 0, 6, 0, 0, 0, 6, 6, 0, 7, 0, 0, 5, 5, 6, 0, 0, 0, 0, 6, 0, 0, 0, 6, 6, 0, 7, 0, 0, 5, 6, 0, 0, 0, 0, 6, 0, 0, 0, 6, 6, 0, 7, 5, 5, 6, 0, 0, 0, 0, 6, 0, 0, 0, 0, 0, 0, 0, 0, 0, 0, 0, 0, 0, 0, 0, 1, 0, 1, 7, 0, 0, 0, 0, 7, 0, 0, 0, 7, 7, 0, 8, 0, 0, 6, 7, 0, 0, 0, 0, 7, 0, 0, 0, 7, 7, 0, 8, 6, 0, 1, 0, 7, 0, 0, 0, 0, 7, 0, 0, 7, 0, 7, 0, 0, 0, 7, 0, 8, 7, 8, 2, 5, 5, 5, 5, 2, 2]
noncomputable def tc47_e (w : World) : List (Of Ent) := [fun ρ _ => entOf (o663 w.params) 663 (ρ 0), fun ρ _ => entOf (o663 w.params) 663 (ρ 2)]
noncomputable def tc46_h : List Nat := [1, 2, 0, 0, 0, 0, 2, 0, 0, 0, 0, 0, 0, 0, 0, 0, 0, 0, 0, 0, 0, 0, 1, 0, 1, 3, 0, 0, 0, 0, 3, 0, 0, 0, 3, 3, 0, 4, 0, 0, 0, 2, 3, 0, 0, 0, 0, 3, 0, 0, 0, 3, 3, 0, 4, 5, 0, 0, 0, 0, 0, 0, 0, 5, 0, 0, 0, 0, 0, 0, 0, 5, 0, 0, 0, 0, 5, 6, 0, 1, 2, 4, 4, 4, 3, 4, 0, 0, 4, 5, 0, 0, 0, 0, 5, 0, 0, 0, 5, 5, 0, 6, 0, 0, 4, 5, 0, 0, 0, 0, 5, 0, 0, 0, 5, 5, 0, 6, 4, 5, 0, 0, 0, 0, 5, 0, 0, 0, 5, 5, 0, 6, 0, 0, 4, 5, 0, 0, 0, 0, 5, 0, 0, 0, 5, 5, 0, 6, 4, 5, 0, 0, 0, 0, 5, 0, 0, 0, 5, 5, 0, 6, 0, 0, 4, 5, 0, 0, 0, 0, 5, 0, 0, 0, 5, 5, 0, 6, 4, 5, 0, 0, 0, 0, 5, 0, 0, 0, 5, 5, 0, 6, 0, 0, 4, 5, 0, 0, 0, 0, 5, 0, 0, 0, 5, 5, 0, 6, 1, 1, 0, 1, 1, 1, 0, 5, 0, 0, 0, 5, 5, 6, 0, 0, 0, 0, 6, 0, 0, 0, 6, 6, 0, 7, 0, 0, 5, 5, 6, 0, 0, 0, 0, 6, 0, 0, 0, 6, 6, 0, 7, 0, 0, 5, 6, 0, 0, 0, 0, 6, 0, 0, 0, 6, 6, 0, 7, 0, 0, 5, 6, 0, 0, 0, 0, 6, 0, 0, 0, 6, 6, 0, 7, 5, 5, 6, 0, 0, 0, 0, 6, 0, 0, 0, 6, 6, 0, 7, 0, 0, 5, 6, 0, 0, 0, 0, 6, 0, 0, 0, 6, 6, 0, 7, 5, 5, 6, 0, 0, 0, 0, 6, 0, 0, 0, 6, 6, 0, 7, 0, 0, 5, 5, 6, 0, 0, 0, 0, 6, 0, 0, 0, 6, 6, 0, 7, 0, 0, 5, 5, 6, 0, 0, 0, 0, 6, 0, 0, 0, 6, 6, 0, 7, 0, 0, 5, 6, 0, 0, 0, 0, 6, 0, 0, 0, 6, 6, 0, 7, 5, 5, 6, 0, 0, 0, 0, 6, 0, 0, 0, 0, 0, 0, 0, 0, 0, 0, 0, 0, 0, 0, 0, 1, 0, 1, 7, 0, 0, 0, 0, 7, 0, 0, 0, 7, 7, 0, 8, 0, 0, 6, 7, 0, 0, 0, 0, 7, 0, 0, 0, 7, 7, 0, 8, 6, 0, 1, 0, 7, 0, 0, 0, 0, 7, 0, 0, 7, 0, 7, 0, 0, 0, 7, 0, 8, 7, 8, 2, 5, 5, 5, 5, 2, 2]
noncomputable def tc46_e (w : World) : List (Of Ent) := [fun ρ _ => entOf (o663 w.params) 663 (ρ 0), fun ρ _ => entOf (o663 w.params) 663 (ρ 2)]
noncomputable def tc113_h : List Nat := [1, 2, 0, 0, 0, 0, 2, 0, 0, 0, 0, 0, 0, 0, 0, 0, 0, 0, 0, 0, 0, 0, 1, 0, 1, 3, 0, 0, 0, 0, 3, 0, 0, 0, 3, 3, 0, 4, 0, 0, 0, 2, 3, 0, 0, 0, 0, 3, 0, 0, 0, 3, 3, 0, 4, 5, 0, 0, 0, 0, 0, 0, 0, 5, 0, 0, 0, 0, 0, 0, 0, 5, 0, 0, 0, 0, 5, 6, 0, 1, 2, 4, 4, 4, 3, 4, 0, 0, 4, 5, 0, 0, 0, 0, 5, 0, 0, 0, 5, 5, 0, 6, 0, 0, 4, 5, 0, 0, 0, 0, 5, 0, 0, 0, 5, 5, 0, 6, 4, 5, 0, 0, 0, 0, 5, 0, 0, 0, 5, 5, 0, 6, 0, 0, 4, 5, 0, 0, 0, 0, 5, 0, 0, 0, 5, 5, 0, 6, 4, 5, 0, 0, 0, 0, 5, 0, 0, 0, 5, 5, 0, 6, 0, 0, 4, 5, 0, 0, 0, 0, 5, 0, 0, 0, 5, 5, 0, 6, 4, 5, 0, 0, 0, 0, 5, 0, 0, 0, 5, 5, 0, 6, 0, 0, 4, 5, 0, 0, 0, 0, 5, 0, 0, 0, 5, 5, 0, 6, 1, 1, 0, 1, 1, 1, 0, 5, 0, 0, 0, 5, 5, 6, 0, 0, 0, 0, 6, 0, 0, 0, 6, 6, 0, 7, 0, 0, 5, 5, 6, 0, 0, 0, 0, 6, 0, 0, 0, 6, 6, 0, 7, 0, 0, 5, 6, 0, 0, 0, 0, 6, 0, 0, 0, 6, 6, 0, 7, 0, 0, 5, 6, 0, 0, 0, 0, 6, 0, 0, 0, 6, 6, 0, 7, 5, 5, 6, 0, 0, 0, 0, 6, 0, 0, 0, 6, 6, 0, 7, 0, 0, 5, 6, 0, 0, 0, 0, 6, 0, 0, 0, 6, 6, 0, 7, 5, 5, 6, 0, 0, 0, 0, 6, 0, 0, 0, 6, 6, 0, 7, 0, 0, 5, 5, 6, 0, 0, 0, 0, 6, 0, 0, 0, 6, 6, 0, 7, 0, 0, 5, 6, 0, 0, 0, 0, 6, 0, 0, 0, 6, 6, 0, 7, 5, 0, 1, 0, 6, 0, 0, 0, 0, 6, 0, 0, 6, 0, 6, 0, 0, 0, 6, 0, 7, 6, 7, 2, 5, 4, 4, 4, 1, 1]
noncomputable def tc113_e (w : World) : List (Of Ent) := [fun ρ _ => entOf (o663 w.params) 663 (ρ 0)]
noncomputable def tc99_h : List Nat := [1, 2, 0, 0, 0, 0, 2, 0, 0, 0, 0, 0, 0, 0, 0, 0, 0, 0, 0, 0, 0, 0, 1, 0, 1, 3, 0, 0, 0, 0, 3, 0, 0, 0, 3, 3, 0, 4, 0, 0, 0, 2, 3, 0, 0, 0, 0, 3, 0, 0, 0, 3, 3, 0, 4, 5, 0, 0, 0, 0, 0, 0, 0, 5, 0, 0, 0, 0, 0, 0, 0, 5, 0, 0, 0, 0, 5, 6, 0, 1, 2, 4, 4, 4, 3, 4, 0, 0, 4, 5, 0, 0, 0, 0, 5, 0, 0, 0, 5, 5, 0, 6, 0, 0, 4, 5, 0, 0, 0, 0, 5, 0, 0, 0, 5, 5, 0, 6, 4, 5, 0, 0, 0, 0, 5, 0, 0, 0, 5, 5, 0, 6, 0, 0, 4, 5, 0, 0, 0, 0, 5, 0, 0, 0, 5, 5, 0, 6, 4, 5, 0, 0, 0, 0, 5, 0, 0, 0, 5, 5, 0, 6, 0, 0, 4, 5, 0, 0, 0, 0, 5, 0, 0, 0, 5, 5, 0, 6, 4, 5, 0, 0, 0, 0, 5, 0, 0, 0, 5, 5, 0, 6, 0, 0, 4, 5, 0, 0, 0, 0, 5, 0, 0, 0, 5, 5, 0, 6, 1, 1, 0, 1, 1, 1, 0, 5, 0, 0, 0, 5, 5, 6, 0, 0, 0, 0, 6, 0, 0, 0, 6, 6, 0, 7, 0, 0, 5, 5, 6, 0, 0, 0, 0, 6, 0, 0, 0, 6, 6, 0, 7, 0, 0, 5, 6, 0, 0, 0, 0, 6, 0, 0, 0, 6, 6, 0, 7, 0, 0, 5, 6, 0, 0, 0, 0, 6, 0, 0, 0, 6, 6, 0, 7, 5, 5, 6, 0, 0, 0, 0, 6, 0, 0, 0, 6, 6, 0, 7, 0, 0, 5, 6, 0, 0, 0, 0, 6, 0, 0, 0, 6, 6, 0, 7, 5, 5, 6, 0, 0, 0, 0, 6, 0, 0, 0, 6, 6, 0, 7, 0, 0, 5, 5, 6, 0, 0, 0, 0, 6, 0, 0, 0, 6, 6, 0, 7, 0, 0, 5, 6, 0, 0, 0, 0, 6, 0, 0, 0, 6, 6, 0, 7, 5, 0, 1, 0, 6, 0, 0, 0, 0, 6, 0, 0, 6, 0, 6, 0, 0, 0, 6, 0, 7, 6, 7, 2, 5, 4, 4, 4, 1, 1]
noncomputable def tc99_e (w : World) : List (Of Ent) := [fun ρ _ => entOf (o663 w.params) 663 (ρ 0)]
noncomputable def tc104_h : List Nat := [1, 2, 0, 0, 0, 0, 2, 0, 0, 0, 0, 0, 0, 0, 0, 0, 0, 0, 0, 0, 0, 0, 1, 0, 1, 3, 0, 0, 0, 0, 3, 0, 0, 0, 3, 3, 0, 4, 0, 0, 0, 2, 3, 0, 0, 0, 0, 3, 0, 0, 0, 3, 3, 0, 4, 5, 0, 0, 0, 0, 0, 0, 0, 5, 0, 0, 0, 0, 0, 0, 0, 5, 0, 0, 0, 0, 5, 6, 0, 1, 2, 4, 4, 4, 3, 4, 0, 0, 4, 5, 0, 0, 0, 0, 5, 0, 0, 0, 5, 5, 0, 6, 0, 0, 4, 5, 0, 0, 0, 0, 5, 0, 0, 0, 5, 5, 0, 6, 4, 5, 0, 0, 0, 0, 5, 0, 0, 0, 5, 5, 0, 6, 0, 0, 4, 5, 0, 0, 0, 0, 5, 0, 0, 0, 5, 5, 0, 6, 4, 5, 0, 0, 0, 0, 5, 0, 0, 0, 5, 5, 0, 6, 0, 0, 4, 5, 0, 0, 0, 0, 5, 0, 0, 0, 5, 5, 0, 6, 4, 5, 0, 0, 0, 0, 5, 0, 0, 0, 5, 5, 0, 6, 0, 0, 4, 5, 0, 0, 0, 0, 5, 0, 0, 0, 5, 5, 0, 6, 1, 1, 0, 1, 1, 1, 0, 5, 0, 0, 0, 5, 5, 6, 0, 0, 0, 0, 6, 0, 0, 0, 6, 6, 0, 7, 0, 0, 5, 5, 6, 0, 0, 0, 0, 6, 0, 0, 0, 6, 6, 0, 7, 0, 0, 5, 6, 0, 0, 0, 0, 6, 0, 0, 0, 6, 6, 0, 7, 0, 0, 5, 6, 0, 0, 0, 0, 6, 0, 0, 0, 6, 6, 0, 7, 5, 5, 6, 0, 0, 0, 0, 6, 0, 0, 0, 6, 6, 0, 7, 0, 0, 5, 6, 0, 0, 0, 0, 6, 0, 0, 0, 6, 6, 0, 7, 5, 5, 6, 0, 0, 0, 0, 6, 0, 0, 0, 6, 6, 0, 7, 0, 0, 5, 5, 6, 0, 0, 0, 0, 6, 0, 0, 0, 6, 6, 0, 7, 0, 0, 5, 6, 0, 0, 0, 0, 6, 0, 0, 0, 6, 6, 0, 7, 5, 0, 1, 0, 6, 0, 0, 0, 0, 6, 0, 0, 6, 0, 6, 0, 0, 0, 6, 0, 7, 6, 7, 2, 5, 4, 4, 4, 1, 1]
noncomputable def tc104_e (w : World) : List (Of Ent) := [fun ρ _ => entOf (o663 w.params) 663 (ρ 0)]
noncomputable def tc97_h : List Nat := [1, 2, 0, 0, 0, 0, 2, 0, 0, 0, 0, 0, 0, 0, 0, 0, 0, 0, 0, 0, 0, 0, 1, 0, 1, 3, 0, 0, 0, 0, 3, 0, 0, 0, 3, 3, 0, 4, 0, 0, 0, 2, 3, 0, 0, 0, 0, 3, 0, 0, 0, 3, 3, 0, 4, 5, 0, 0, 0, 0, 0, 0, 0, 5, 0, 0, 0, 0, 0, 0, 0, 5, 0, 0, 0, 0, 5, 6, 0, 1, 2, 4, 4, 4, 3, 4, 0, 0, 4, 5, 0, 0, 0, 0, 5, 0, 0, 0, 5, 5, 0, 6, 0, 0, 4, 5, 0, 0, 0, 0, 5, 0, 0, 0, 5, 5, 0, 6, 4, 5, 0, 0, 0, 0, 5, 0, 0, 0, 5, 5, 0, 6, 0, 0, 4, 5, 0, 0, 0, 0, 5, 0, 0, 0, 5, 5, 0, 6, 4, 5, 0, 0, 0, 0, 5, 0, 0, 0, 5, 5, 0, 6, 0, 0, 4, 5, 0, 0, 0, 0, 5, 0, 0, 0, 5, 5, 0, 6, 4, 5, 0, 0, 0, 0, 5, 0, 0, 0, 5, 5, 0, 6, 0, 0, 4, 5, 0, 0, 0, 0, 5, 0, 0, 0, 5, 5, 0, 6, 1, 1, 0, 1, 1, 1, 0, 5, 0, 0, 0, 5, 5, 6, 0, 0, 0, 0, 6, 0, 0, 0, 6, 6, 0, 7, 0, 0, 5, 5, 6, 0, 0, 0, 0, 6, 0, 0, 0, 6, 6, 0, 7, 0, 0, 5, 6, 0, 0, 0, 0, 6, 0, 0, 0, 6, 6, 0, 7, 0, 0, 5, 6, 0, 0, 0, 0, 6, 0, 0, 0, 6, 6, 0, 7, 5, 5, 6, 0, 0, 0, 0, 6, 0, 0, 0, 6, 6, 0, 7, 0, 0, 5, 6, 0, 0, 0, 0, 6, 0, 0, 0, 6, 6, 0, 7, 5, 5, 6, 0, 0, 0, 0, 6, 0, 0, 0, 6, 6, 0, 7, 0, 0, 5, 5, 6, 0, 0, 0, 0, 6, 0, 0, 0, 6, 6, 0, 7, 0, 0, 5, 6, 0, 0, 0, 0, 6, 0, 0, 0, 6, 6, 0, 7, 5, 0, 1, 0, 6, 0, 0, 0, 0, 6, 0, 0, 6, 0, 6, 0, 0, 0, 6, 0, 7, 6, 7, 2, 5, 4, 4, 4, 1, 1]
noncomputable def tc97_e (w : World) : List (Of Ent) := [fun ρ _ => entOf (o663 w.params) 663 (ρ 0)]
noncomputable def tc101_h : List Nat := [1, 2, 0, 0, 0, 0, 2, 0, 0, 0, 0, 0, 0, 0, 0, 0, 0, 0, 0, 0, 0, 0, 1, 0, 1, 3, 0, 0, 0, 0, 3, 0, 0, 0, 3, 3, 0, 4, 0, 0, 0, 2, 3, 0, 0, 0, 0, 3, 0, 0, 0, 3, 3, 0, 4, 5, 0, 0, 0, 0, 0, 0, 0, 5, 0, 0, 0, 0, 0, 0, 0, 5, 0, 0, 0, 0, 5, 6, 0, 1, 2, 4, 4, 4, 3, 4, 0, 0, 4, 5, 0, 0, 0, 0, 5, 0, 0, 0, 5, 5, 0, 6, 0, 0, 4, 5, 0, 0, 0, 0, 5, 0, 0, 0, 5, 5, 0, 6, 4, 5, 0, 0, 0, 0, 5, 0, 0, 0, 5, 5, 0, 6, 0, 0, 4, 5, 0, 0, 0, 0, 5, 0, 0, 0, 5, 5, 0, 6, 4, 5, 0, 0, 0, 0, 5, 0, 0, 0, 5, 5, 0, 6, 0, 0, 4, 5, 0, 0, 0, 0, 5, 0, 0, 0, 5, 5, 0, 6, 4, 5, 0, 0, 0, 0, 5, 0, 0, 0, 5, 5, 0, 6, 0, 0, 4, 5, 0, 0, 0, 0, 5, 0, 0, 0, 5, 5, 0, 6, 1, 1, 0, 1, 1, 1, 0, 5, 0, 0, 0, 5, 5, 6, 0, 0, 0, 0, 6, 0, 0, 0, 6, 6, 0, 7, 0, 0, 5, 5, 6, 0, 0, 0, 0, 6, 0, 0, 0, 6, 6, 0, 7, 0, 0, 5, 6, 0, 0, 0, 0, 6, 0, 0, 0, 6, 6, 0, 7, 0, 0, 5, 6, 0, 0, 0, 0, 6, 0, 0, 0, 6, 6, 0, 7, 5, 5, 6, 0, 0, 0, 0, 6, 0, 0, 0, 6, 6, 0, 7, 0, 0, 5, 6, 0, 0, 0, 0, 6, 0, 0, 0, 6, 6, 0, 7, 5, 5, 6, 0, 0, 0, 0, 6, 0, 0, 0, 6, 6, 0, 7, 0, 0, 5, 5, 6, 0, 0, 0, 0, 6, 0, 0, 0, 6, 6, 0, 7, 0, 0, 5, 6, 0, 0, 0, 0, 6, 0, 0, 0, 6, 6, 0, 7, 5, 0, 1, 0, 6, 0, 0, 0, 0, 6, 0, 0, 6, 0, 6, 0, 0, 0, 6, 0, 7, 6, 7, 2, 5, 4, 4, 4, 1, 1]
noncomputable def tc101_e (w : World) : List (Of Ent) := [fun ρ _ => entOf (o663 w.params) 663 (ρ 0)]
noncomputable def tc100_h : List Nat := [1, 2, 0, 0, 0, 0, 2, 0, 0, 0, 0, 0, 0, 0, 0, 0, 0, 0, 0, 0, 0, 0, 1, 0, 1, 3, 0, 0, 0, 0, 3, 0, 0, 0, 3, 3, 0, 4, 0, 0, 0, 2, 3, 0, 0, 0, 0, 3, 0, 0, 0, 3, 3, 0, 4, 5, 0, 0, 0, 0, 0, 0, 0, 5, 0, 0, 0, 0, 0, 0, 0, 5, 0, 0, 0, 0, 5, 6, 0, 1, 2, 4, 4, 4, 3, 4, 0, 0, 4, 5, 0, 0, 0, 0, 5, 0, 0, 0, 5, 5, 0, 6, 0, 0, 4, 5, 0, 0, 0, 0, 5, 0, 0, 0, 5, 5, 0, 6, 4, 5, 0, 0, 0, 0, 5, 0, 0, 0, 5, 5, 0, 6, 0, 0, 4, 5, 0, 0, 0, 0, 5, 0, 0, 0, 5, 5, 0, 6, 4, 5, 0, 0, 0, 0, 5, 0, 0, 0, 5, 5, 0, 6, 0, 0, 4, 5, 0, 0, 0, 0, 5, 0, 0, 0, 5, 5, 0, 6, 4, 5, 0, 0, 0, 0, 5, 0, 0, 0, 5, 5, 0, 6, 0, 0, 4, 5, 0, 0, 0, 0, 5, 0, 0, 0, 5, 5, 0, 6, 1, 1, 0, 1, 1, 1, 0, 5, 0, 0, 0, 5, 5, 6, 0, 0, 0, 0, 6, 0, 0, 0, 6, 6, 0, 7, 0, 0, 5, 5, 6, 0, 0, 0, 0, 6, 0, 0, 0, 6, 6, 0, 7, 0, 0, 5, 6, 0, 0, 0, 0, 6, 0, 0, 0, 6, 6, 0, 7, 0, 0, 5, 6, 0, 0, 0, 0, 6, 0, 0, 0, 6, 6, 0, 7, 5, 5, 6, 0, 0, 0, 0, 6, 0, 0, 0, 6, 6, 0, 7, 0, 0, 5, 6, 0, 0, 0, 0, 6, 0, 0, 0, 6, 6, 0, 7, 5, 5, 6, 0, 0, 0, 0, 6, 0, 0, 0, 6, 6, 0, 7, 0, 0, 5, 5, 6, 0, 0, 0, 0, 6, 0, 0, 0, 6, 6, 0, 7, 0, 0, 5, 6, 0, 0, 0, 0, 6, 0, 0, 0, 6, 6, 0, 7, 5, 0, 1, 0, 6, 0, 0, 0, 0, 6, 0, 0, 6, 0, 6, 0, 0, 0, 6, 0, 7, 6, 7, 2, 5, 4, 4, 4, 1, 1]
noncomputable def tc100_e (w : World) : List (Of Ent) := [fun ρ _ => entOf (o663 w.params) 663 (ρ 0)]
noncomputable def tb_h : List Nat := [1, 2, 0, 0, 0, 0, 2, 0, 0, 0, 0, 0, 0, 0, 0, 0, 0, 0, 0, 0, 0, 0, 1, 0, 1, 3, 0, 0, 0, 0, 3, 0, 0, 0, 3, 3, 0, 4, 0, 0, 0, 2, 3, 0, 0, 0, 0, 3, 0, 0, 0, 3, 3, 0, 4, 5, 0, 0, 0, 0, 0, 0, 0, 5, 0, 0, 0, 0, 0, 0, 0, 5, 0, 0, 0, 0, 5, 6, 0, 1, 2, 4, 4, 4, 3, 4, 0, 0, 4, 5, 0, 0, 0, 0, 5, 0, 0, 0, 5, 5, 0, 6, 0, 0, 4, 5, 0, 0, 0, 0, 5, 0, 0, 0, 5, 5, 0, 6, 4, 5, 0, 0, 0, 0, 5, 0, 0, 0, 5, 5, 0, 6, 0, 0, 4, 5, 0, 0, 0, 0, 5, 0, 0, 0, 5, 5, 0, 6, 4, 5, 0, 0, 0, 0, 5, 0, 0, 0, 5, 5, 0, 6, 0, 0, 4, 5, 0, 0, 0, 0, 5, 0, 0, 0, 5, 5, 0, 6, 4, 5, 0, 0, 0, 0, 5, 0, 0, 0, 5, 5, 0, 6, 0, 0, 4, 5, 0, 0, 0, 0, 5, 0, 0, 0, 5, 5, 0, 6, 1, 1, 0, 1, 1, 1, 0, 5, 0, 0, 0, 5, 5, 6, 0, 0, 0, 0, 6, 0, 0, 0, 6, 6, 0, 7, 0, 0, 5, 6, 0, 0, 0, 0, 6, 0, 0, 0, 6, 6, 0, 7, 0, 0, 5, 6, 0, 0, 0, 0, 6, 0, 0, 6, 0, 6, 0, 0, 0, 6, 0, 7, 6, 7, 5, 6, 0, 0, 0, 0, 6, 0, 0, 0, 6, 6, 0, 7, 1, 0, 5, 4, 4, 4, 1, 1]
noncomputable def tb_e (w : World) : List (Of Ent) := [fun ρ _ => entOf (o663 w.params) 663 (ρ 0)]
noncomputable def te_h : List Nat := [1, 2, 0, 0, 0, 0, 2, 0, 0, 0, 0, 0, 0, 0, 0, 0, 0, 0, 0, 0, 0, 0, 1, 0, 1, 3, 0, 0, 0, 0, 3, 0, 0, 0, 3, 3, 0, 4, 0, 0, 0, 2, 3, 0, 0, 0, 0, 3, 0, 0, 0, 3, 3, 0, 4, 5, 0, 0, 0, 0, 0, 0, 0, 5, 0, 0, 0, 0, 0, 0, 0, 5, 0, 0, 0, 0, 5, 6, 0, 1, 2, 4, 4, 4, 3, 4, 0, 0, 4, 5, 0, 0, 0, 0, 5, 0, 0, 0, 5, 5, 0, 6, 0, 0, 4, 5, 0, 0, 0, 0, 5, 0, 0, 0, 5, 5, 0, 6, 4, 5, 0, 0, 0, 0, 5, 0, 0, 0, 5, 5, 0, 6, 0, 0, 4, 5, 0, 0, 0, 0, 5, 0, 0, 0, 5, 5, 0, 6, 4, 5, 0, 0, 0, 0, 5, 0, 0, 0, 5, 5, 0, 6, 0, 0, 4, 5, 0, 0, 0, 0, 5, 0, 0, 0, 5, 5, 0, 6, 4, 5, 0, 0, 0, 0, 5, 0, 0, 0, 5, 5, 0, 6, 0, 0, 4, 5, 0, 0, 0, 0, 5, 0, 0, 0, 5, 5, 0, 6, 1, 1, 0, 1, 1, 1, 0, 5, 0, 0, 0, 5, 6, 0, 0, 0, 0, 6, 0, 0, 6, 0, 6, 0, 0, 0, 6, 0, 7, 6, 7, 5, 4, 4, 4, 1, 1]
noncomputable def te_e (w : World) : List (Of Ent) := [fun ρ _ => entOf (o663 w.params) 663 (ρ 0)]
noncomputable def tn_h : List Nat := [1, 2, 0, 0, 0, 0, 2, 0, 0, 0, 0, 0, 0, 0, 0, 0, 0, 0, 0, 0, 0, 0, 1, 0, 1, 3, 0, 0, 0, 0, 3, 0, 0, 0, 3, 3, 0, 4, 0, 0, 0, 2, 3, 0, 0, 0, 0, 3, 0, 0, 0, 3, 3, 0, 4, 5, 0, 0, 0, 0, 0, 0, 0, 5, 0, 0, 0, 0, 0, 0, 0, 5, 0, 0, 0, 0, 5, 6, 0, 1, 2, 4, 4, 4, 3, 4, 0, 0, 4, 5, 0, 0, 0, 0, 5, 0, 0, 0, 5, 5, 0, 6, 0, 0, 4, 5, 0, 0, 0, 0, 5, 0, 0, 0, 5, 5, 0, 6, 4, 5, 0, 0, 0, 0, 5, 0, 0, 5, 0, 5, 0, 0, 0, 5, 0, 6, 5, 6, 5, 3, 3, 3, 0, 0]
noncomputable def tn_e (w : World) : List (Of Ent) := [fun ρ _ => entOf (o663 w.params) 663 (ρ 0)]
end Mine
end
section
open PySem PySem.W PySem.W.X PyProof.Rows
set_option Elab.async false
set_option maxRecDepth 100000
namespace Mine
noncomputable def rd_h : List Nat := [0, 0, 0, 1, 0, 1, 0, 1, 0, 1, 0, 0, 0, 0, 1, 0, 1, 0, 0, 0, 1, 0, 0, 0, 0, 0, 0, 1, 0, 0, 0, 0, 0, 0, 1, 0, 1, 0, 0, 1, 0, 0, 0, 0, 1, 2, 1, 2, 3, 0, 0, 0, 0, 0, 0, 0, 3, 0, 0, 0, 0, 0, 0, 0, 3, 0, 0, 0, 0, 3, 4, 0, 0, 0, 0, 1, 0, 1, 4, 0, 0, 0, 0, 0, 0, 0, 0, 4, 0, 0, 0, 0, 0, 0, 0, 4, 4, 0, 5, 3, 4, 0, 0, 0, 0, 0, 0, 0, 0, 4, 0, 0, 0, 0, 0, 0, 0, 4, 4, 0, 5, 3, 2, 0, 0, 3, 4, 0, 0, 0, 0, 0, 0, 0, 0, 4, 0, 0, 0, 0, 0, 0, 0, 4, 4, 0, 5, 0, 1, 0, 3, 2, 3, 3, 0, 1, 0, 3, 0, 0, 3, 3, 0, 0, 3, 0, 1, 0, 3, 3, 0, 0, 3, 2, 3, 3, 4, 0, 0, 0, 0, 0, 0, 0, 0, 4, 0, 0, 4, 0, 4, 0, 0, 0, 0, 0, 0, 0, 4, 0, 5, 4, 5, 3, 4, 0, 0, 0, 0, 0, 0, 0, 0, 4, 0, 0, 0, 0, 0, 0, 0, 4, 4, 0, 5, 3, 3, 0, 1, 1, 0, 2, 4, 4]
noncomputable def rd_e (w : World) : List (Of Ent) := [fun ρ _ => entOf (o543 w.params) 543 (ρ 0), fun ρ _ => entOf (o63 w.params) 63 (ρ 1), fun ρ _ => entOf (o381 w.params) 381 (ρ 2)]
noncomputable def rd1_h : List Nat := [0, 0, 0, 1, 0, 1, 0, 1, 0, 1, 0, 0, 0, 0, 1, 0, 1, 0, 0, 0, 1, 0, 0, 0, 0, 0, 0, 1, 0, 0, 0, 0, 0, 0, 1, 0, 1, 0, 0, 1, 0, 0, 0, 0, 1, 2, 1, 2, 3, 0, 0, 0, 0, 0, 0, 0, 3, 0, 0, 0, 0, 0, 0, 0, 3, 0, 0, 0, 0, 3, 4, 0, 0, 0, 0, 1, 0, 1, 4, 0, 0, 0, 0, 0, 0, 0, 0, 4, 0, 0, 0, 0, 0, 0, 0, 4, 4, 0, 5, 3, 4, 0, 0, 0, 0, 0, 0, 0, 0, 4, 0, 0, 0, 0, 0, 0, 0, 4, 4, 0, 5, 3, 2, 0, 0, 3, 4, 0, 0, 0, 0, 0, 0, 0, 0, 4, 0, 0, 0, 0, 0, 0, 0, 4, 4, 0, 5, 0, 1, 0, 3, 2, 3, 3, 0, 1, 0, 3, 0, 0, 3, 3, 0, 0, 3, 0, 1, 0, 3, 3, 4, 0, 0, 0, 0, 0, 0, 0, 0, 4, 0, 0, 4, 0, 4, 0, 0, 0, 0, 0, 0, 0, 4, 0, 5, 4, 5, 3, 4, 0, 0, 0, 0, 0, 0, 0, 0, 4, 0, 0, 0, 0, 0, 0, 0, 4, 4, 0, 5, 3, 3, 0, 1, 1, 0, 2, 4, 4]
noncomputable def rd1_e (w : World) : List (Of Ent) := [fun ρ _ => entOf (o543 w.params) 543 (ρ 0), fun ρ _ => entOf (o63 w.params) 63 (ρ 1), fun ρ _ => entOf (o381 w.params) 381 (ρ 2)]
noncomputable def rd2_h : List Nat := [0, 0, 0, 1, 0, 1, 0, 1, 0, 1, 0, 0, 0, 0, 1, 0, 1, 0, 0, 0, 1, 0, 0, 0, 0, 0, 0, 1, 0, 0, 0, 0, 0, 0, 1, 0, 1, 0, 0, 1, 0, 0, 0, 0, 1, 2, 1, 2, 3, 0, 0, 0, 0, 0, 0, 0, 3, 0, 0, 0, 0, 0, 0, 0, 3, 0, 0, 0, 0, 3, 4, 0, 0, 0, 0, 1, 0, 1, 4, 0, 0, 0, 0, 0, 0, 0, 0, 4, 0, 0, 0, 0, 0, 0, 0, 4, 4, 0, 5, 3, 4, 0, 0, 0, 0, 0, 0, 0, 0, 4, 0, 0, 0, 0, 0, 0, 0, 4, 4, 0, 5, 3, 2, 0, 0, 3, 4, 0, 0, 0, 0, 0, 0, 0, 0, 4, 0, 0, 0, 0, 0, 0, 0, 4, 4, 0, 5, 0, 1, 0, 3, 2, 3, 3, 0, 1, 0, 2, 3, 3]
noncomputable def rd2_e (w : World) : List (Of Ent) := [fun ρ _ => entOf (o543 w.params) 543 (ρ 0), fun ρ _ => entOf (o63 w.params) 63 (ρ 1), fun ρ _ => entOf (o381 w.params) 381 (ρ 2)]
end Mine
end
section
open PySem PySem.W PySem.W.X PyProof.Rows
set_option Elab.async false
set_option maxRecDepth 100000
namespace Mine
section
variable (w : World) (b c : Bool) (ρ : Nat → Addr) (τ : Nat → Tok) (T : Nat → Tok) (a d : Addr) (l : List Nat) (p : Nat) (tb tp t1 : Tok) (y : List Nat)
theorem rd_run : Both (runOf (wF w b c) ρ τ 500 (rdZ (wF w b c).params T a d l p tb y) rd_h (rdK l p tb tp y) (rd_e (wF w b c)) 4 (.call (.ref 543) ⟨[.ref a, .int 1 t1], []⟩) [(a, instO 597 d), (d, ioD (wF w b c).params T l tb p tp)]) := by cases b <;> exact both_of (by kernel_rfl)
theorem rd1_run : Both (runOf (wF w b c) ρ τ 500 (rdZ1 (wF w b c).params T a d l tb y) rd1_h (rdK1 l p tb tp y) (rd1_e (wF w b c)) 4 (.call (.ref 543) ⟨[.ref a, .int 1 t1], []⟩) [(a, instO 597 d), (d, ioD (wF w b c).params T l tb p tp)]) := by cases b <;> exact both_of (by kernel_rfl)
theorem rd2_run : Both (runOf (wF w b c) ρ τ 500 (rdZ2 (wF w b c).params T a d l p tb tp) rd2_h (rdK2 l p tb tp) (rd2_e (wF w b c)) 4 (.call (.ref 543) ⟨[.ref a, .int 1 t1], []⟩) [(a, instO 597 d), (d, ioD (wF w b c).params T l tb p tp)]) := by cases b <;> exact both_of (by kernel_rfl)
noncomputable def Rd (l : List Nat) (p : Nat) (y : List Nat) (p' : Nat) : Prop := (∃ c, l[p]? = some c ∧ y = [c] ∧ p' = p + 1) ∨ (p = l.length ∧ y = [] ∧ p' = p)
theorem drop_take_one {l : List Nat} {p c : Nat} (h : l[p]? = some c) : (l.drop p).take (p + 1 - p) = [c] := by
  obtain ⟨hl, rfl⟩ := List.getElem?_eq_some_iff.mp h
  rw [List.drop_eq_getElem_cons hl, Nat.add_sub_cancel_left]
  rfl
theorem kRead_ok {p' : Nat} (hl : l.length ≤ sizeLine) (h : Rd l p y p') : Cut.Ok (VW (wF w b c)) (kRead (wF w b c).params T a d l p tb tp t1 y p') := by
  rcases h with ⟨x, hx, rfl, rfl⟩ | ⟨rfl, rfl, rfl⟩
  · have hp : p < l.length := (List.getElem?_eq_some_iff.mp hx).1
    have ge : decide ((Int.ofNat p) ≥ Int.ofNat l.length) = false := by simp; omega
    by_cases q : p + 1 < l.length
    · have lt : decide ((Int.ofNat (p + 1)) < Int.ofNat l.length) = true := by simp; omega
      refine spec_run (fun ρ τ => rd_run w b c ρ τ T a d l p tb tp t1 [x]) (Oks.cons (fun _ _ => len_ok hl) <| .cons (fun _ _ => cmp_ge ge) <| .cons (fun _ _ => cmp_lt lt) <| .cons (fun _ _ => kSl_ok hl ?_) .nil) fun ρ τ => ⟨[], [τ 24, τ 19], rfl, rfl, rfl, rfl⟩
      rw [← drop_take_one hx]
      exact slice_plain (Nat.le_succ p) hp
    · have e : p + 1 = l.length := by omega
      have lt : decide ((Int.ofNat (p + 1)) < Int.ofNat l.length) = false := by simp; omega
      have r := fun ρ τ => rd1_run w b c ρ τ T a d l p tb tp t1 [x]
      refine spec_run r (Oks.cons (fun _ _ => len_ok hl) <| .cons (fun _ _ => cmp_ge ge) <| .cons (fun _ _ => cmp_lt lt) <| .cons (fun _ _ => kSl_ok hl ?_) .nil) fun ρ τ => ⟨[], [τ 22, τ 15], rfl, rfl, rfl, ?_⟩
      · rw [← drop_take_one hx, e]
        exact slice_plain (by omega) (Nat.le_refl _)
      · show [(a, instO 597 d), (d, ioD _ T l tb l.length (τ 15))] = _
        rw [← e]
        rfl
  · have ge : decide ((Int.ofNat l.length) ≥ Int.ofNat l.length) = true := by simp
    exact spec_run (fun ρ τ => rd2_run w b c ρ τ T a d l l.length tb tp t1) (Oks.cons (fun _ _ => len_ok hl) <| .cons (fun _ _ => cmp_ge ge) .nil) fun ρ τ => ⟨[], [τ 17, tp], rfl, rfl, rfl, rfl⟩
end
end Mine
end
section
open PySem PySem.W PySem.W.X PyProof.Rows PySem.Builtin.Str
set_option Elab.async false
set_option maxRecDepth 100000
namespace Mine
section
variable (w : World) (b c : Bool) (ρ : Nat → Addr) (τ : Nat → Tok) (T TI E : Nat → Tok) (L a d io dio q1 q2 : Addr) (l : List Nat) (te kn tb tp ts tt tc : Tok) (p : Nat) (u : List Nat)
theorem t0_run : Both (runOf (wF w b c) ρ τ 900 (t0Z (wF w b c).params T TI E L a d io dio q1 q2 l te tb p) t0_h (t0K (wF w b c).params TI io dio l p tb tp) (t0_e (wF w b c)) 6 (rtC (wF w b c).params L) (rtD (wF w b c).params T TI L a d io dio q1 q2 l (rtF0 (wF w b c).params E a te) (chS 32 ts) (.str ⟨⟨[]⟩⟩ tt) p tb tp)) := by
  cases b <;> exact both_of (by kernel_rfl)
theorem tb_run (v : Nat) : Both (runOf (wF w b c) ρ τ 900 (tbZ (wF w b c).params T TI E L a d io dio q1 q2 l 28 te kn tb tt u p) tb_h (tbK (wF w b c).params TI io dio l p tb tp ts tt u) (tb_e (wF w b c)) 6 (rtC (wF w b c).params L) (rtD (wF w b c).params T TI L a d io dio q1 q2 l (rtF1 (wF w b c).params E a te kn (chS v tc)) (chS 97 ts) (.str ⟨⟨47 :: u⟩⟩ tt) p tb tp)) := by
  cases b <;> exact both_of (by kernel_rfl)
theorem te_run (v : Nat) : Both (runOf (wF w b c) ρ τ 900 (teZ (wF w b c).params T TI E L a d io dio q1 q2 l te kn tb tt u p) te_h (teK (wF w b c).params TI io dio l p tb tp ts) (te_e (wF w b c)) 6 (rtC (wF w b c).params L) (rtD (wF w b c).params T TI L a d io dio q1 q2 l (rtF1 (wF w b c).params E a te kn (chS v tc)) (chS 97 ts) (.str ⟨⟨47 :: u⟩⟩ tt) p tb tp)) := by
  cases b <;> exact both_of (by kernel_rfl)
theorem tn_run : Both (runOf (wF w b c) ρ τ 900 (tnZ (wF w b c).params T TI E L a d io dio q1 q2 l te tb p) tn_h (tnK (wF w b c).params TI io dio l p tb tp) (tn_e (wF w b c)) 6 (rtC (wF w b c).params L) (rtD (wF w b c).params T TI L a d io dio q1 q2 l (rtF0 (wF w b c).params E a te) .none (.str ⟨⟨[]⟩⟩ tt) p tb tp)) := by
  cases b <;> exact both_of (by kernel_rfl)
theorem tc47_run (v : Nat) (s : Nat) (hs : s = 47 ∨ s = 46) : Both (runOf (wF w b c) ρ τ 900 (tcZ (wF w b c).params T TI E L a d io dio q1 q2 l 40 te kn tb ts s u p) tc47_h (tcK (wF w b c).params TI io dio l p tb tp ts s u tt) (tc47_e (wF w b c)) 6 (rtC (wF w b c).params L) (rtD (wF w b c).params T TI L a d io dio q1 q2 l (rtF1 (wF w b c).params E a te kn (chS v tc)) (chS 97 ts) (.str ⟨⟨47 :: u⟩⟩ tt) p tb tp)) := by
  rcases hs with rfl | rfl <;> cases b <;> exact both_of (by kernel_rfl)
theorem tcL_run (v : Nat) (s : Nat) (hs : s = 113 ∨ s = 99 ∨ s = 104 ∨ s = 97 ∨ s = 101 ∨ s = 100) : Both (runOf (wF w b c) ρ τ 900 (tcZ (wF w b c).params T TI E L a d io dio q1 q2 l 35 te kn tb ts s u p) tc113_h (tcK (wF w b c).params TI io dio l p tb tp ts s u tt) (tc113_e (wF w b c)) 6 (rtC (wF w b c).params L) (rtD (wF w b c).params T TI L a d io dio q1 q2 l (rtF1 (wF w b c).params E a te kn (chS v tc)) (chS 97 ts) (.str ⟨⟨47 :: u⟩⟩ tt) p tb tp)) := by
  rcases hs with rfl | rfl | rfl | rfl | rfl | rfl <;> cases b <;> exact both_of (by kernel_rfl)
end
end Mine
end
section
open PySem PySem.W PySem.W.X PyProof.Rows PySem.Builtin.Str
set_option Elab.async false
set_option maxRecDepth 100000
namespace Mine
noncomputable def hd4 : List Nat → Nat
  | _ :: l => hd3 l
  | [] => 0
noncomputable def stNone : Tok → Value := fun _ => .none
noncomputable def okc (s : Nat) : Prop := (s = 47 ∨ s = 46) ∨ (s = 113 ∨ s = 99 ∨ s = 104 ∨ s = 97 ∨ s = 101 ∨ s = 100)
theorem rd_some {l : List Nat} {p s : Nat} {r : List Nat} (h : l.drop p = s :: r) : Rd l p [s] (p + 1) ∧ l.drop (p + 1) = r := by
  have hg : l[p]? = some s := by
    have e : (l.drop p)[0]? = l[p + 0]? := List.getElem?_drop
    rw [h] at e
    exact e.symm
  refine ⟨.inl ⟨s, hg, rfl, rfl⟩, ?_⟩
  have : l.drop (p + 1) = (l.drop p).drop 1 := by rw [List.drop_drop]
  rw [this, h]
  rfl
theorem rd_none {l : List Nat} {p : Nat} (h : l.drop p = []) (hp : p ≤ l.length) : Rd l p [] p := .inr ⟨by have := List.drop_eq_nil_iff.mp h; omega, rfl, rfl⟩
section
variable (w : World) (b c : Bool) (T TI E : Nat → Tok) (L a d io dio q1 q2 : Addr) (l : List Nat) (te tb : Tok)
noncomputable def LpP (P : Params) (nc word : List Nat) (st : Tok → Value) (p : Nat) : Result → Dyn → Prop := fun r D => ∃ kn tc ts tt tp, r = .ok .next ∧ D = rtD P T TI L a d io dio q1 q2 l (rtF1 P E a te kn (.str ⟨⟨nc⟩⟩ tc)) (st ts) (.str ⟨⟨word⟩⟩ tt) p tb tp
theorem lp_mid (hl : l.length ≤ sizeLine) (after : List Nat) : ∀ (rest u : List Nat) (p : Nat) (v : Nat) (kn tc ts tt tp : Tok), (∀ s ∈ rest, okc s) → l.drop p = rest ++ after → p ≤ l.length → u.length + rest.length + 2 ≤ sizeLine →
    ∀ nc st p', ((after = [] ∧ nc = [] ∧ st = stNone ∧ p' = p + rest.length) ∨ (∃ m, after = 32 :: m ∧ nc = [32] ∧ st = chS 32 ∧ p' = p + rest.length + 1)) →
    Spec (VW (wF w b c)) none 6 (rtC (wF w b c).params L) (rtD (wF w b c).params T TI L a d io dio q1 q2 l (rtF1 (wF w b c).params E a te kn (chS v tc)) (chS 97 ts) (.str ⟨⟨47 :: u⟩⟩ tt) p tb tp)
      (LpP T TI E L a d io dio q1 q2 l te tb (wF w b c).params nc (47 :: (u ++ rest)) st p')
  | [], u, p, v, kn, tc, ts, tt, tp, _, hd, hp, hb, nc, st, p', h => by
    rw [List.append_nil]
    rcases h with ⟨ha, rfl, rfl, hq⟩ | ⟨m, ha, rfl, rfl, hq⟩
    · rw [ha] at hd
      have hq : p' = p := hq
      rw [hq]
      exact spec_run (fun ρ τ => te_run w b c ρ τ T TI E L a d io dio q1 q2 l te kn tb tp ts tt tc p u v) (Oks.cons (fun _ _ => kRead_ok _ _ _ _ _ _ _ _ _ _ _ _ hl (rd_none hd hp)) <| .cons (fun _ _ => kTC_ok rfl) .nil) fun ρ τ => ⟨_, _, ts, _, _, rfl, rfl⟩
    · rw [ha] at hd
      have hq : p' = p + 1 := hq
      rw [hq]
      exact spec_run (fun ρ τ => tb_run w b c ρ τ T TI E L a d io dio q1 q2 l te kn tb tp ts tt tc p u v) (Oks.cons (fun _ _ => kRead_ok _ _ _ _ _ _ _ _ _ _ _ _ hl (rd_some hd).1) <| .cons (fun _ _ => kTC_ok rfl) <| .cons (fun _ _ => len_ok (by simp only [List.length_cons, List.length_nil] at hb ⊢; omega)) .nil) fun ρ τ => ⟨_, _, _, _, _, rfl, rfl⟩
  | s :: rest, u, p, v, kn, tc, ts, tt, tp, hs, hd, hp, hb, nc, st, p', h => by
    have hp' : p + 1 ≤ l.length := by
      have : l.drop p ≠ [] := by rw [hd]; simp
      have := mt List.drop_eq_nil_iff.mpr this
      omega
    simp only [List.length_cons] at hb h
    have e : 47 :: (u ++ s :: rest) = 47 :: ((u ++ [s]) ++ rest) := by simp
    have h' : (after = [] ∧ nc = [] ∧ st = stNone ∧ p' = p + 1 + rest.length) ∨ (∃ m, after = 32 :: m ∧ nc = [32] ∧ st = chS 32 ∧ p' = p + 1 + rest.length + 1) := by
      rcases h with ⟨h1, h2, h3, h4⟩ | ⟨m, h1, h2, h3, h4⟩
      · exact .inl ⟨h1, h2, h3, by omega⟩
      · exact .inr ⟨m, h1, h2, h3, by omega⟩
    have ih := fun kn tc ts tt tp => lp_mid hl after rest (u ++ [s]) (p + 1) s kn tc ts tt tp (fun x hx => hs x (.tail _ hx)) (rd_some hd).2 hp' (by simp; omega) nc st p' h'
    rw [e]
    rcases hs s (.head _) with hc | hc
    · exact spec_run (fun ρ τ => tc47_run w b c ρ τ T TI E L a d io dio q1 q2 l te kn tb tp ts tt tc p u v s hc) (Oks.cons (fun _ _ => kRead_ok _ _ _ _ _ _ _ _ _ _ _ _ hl (rd_some hd).1) <| .cons (fun _ _ => kTC_ok rfl) <| .cons (fun _ _ => add_ok (x := 47 :: u) (y := [s]) (by simp) (by simp) (by simp; omega)) .nil) fun ρ τ => ih _ _ _ _ _
    · exact spec_run (fun ρ τ => tcL_run w b c ρ τ T TI E L a d io dio q1 q2 l te kn tb tp ts tt tc p u v s hc) (Oks.cons (fun _ _ => kRead_ok _ _ _ _ _ _ _ _ _ _ _ _ hl (rd_some hd).1) <| .cons (fun _ _ => kTC_ok rfl) <| .cons (fun _ _ => add_ok (x := 47 :: u) (y := [s]) (by simp) (by simp) (by simp; omega)) .nil) fun ρ τ => ih _ _ _ _ _
theorem lp_word (hl : l.length ≤ sizeLine) (after rest : List Nat) (p : Nat) (ts tt tp : Tok) (hs : ∀ s ∈ rest, okc s) (hd : l.drop p = 47 :: (rest ++ after)) (nc : List Nat) (st : Tok → Value) (p' : Nat)
    (h : (after = [] ∧ nc = [] ∧ st = stNone ∧ p' = p + 1 + rest.length) ∨ (∃ m, after = 32 :: m ∧ nc = [32] ∧ st = chS 32 ∧ p' = p + 1 + rest.length + 1)) (hb : rest.length + 2 ≤ sizeLine) :
    Spec (VW (wF w b c)) none 6 (rtC (wF w b c).params L) (rtD (wF w b c).params T TI L a d io dio q1 q2 l (rtF0 (wF w b c).params E a te) (chS 32 ts) (.str ⟨⟨[]⟩⟩ tt) p tb tp)
      (LpP T TI E L a d io dio q1 q2 l te tb (wF w b c).params nc (47 :: rest) st p') := by
  have hp' : p + 1 ≤ l.length := by
    have : l.drop p ≠ [] := by rw [hd]; simp
    have := mt List.drop_eq_nil_iff.mpr this
    omega
  exact spec_run (fun ρ τ => t0_run w b c ρ τ T TI E L a d io dio q1 q2 l te tb tp ts tt p) (Oks.cons (fun _ _ => kRead_ok _ _ _ _ _ _ _ _ _ _ _ _ hl (rd_some hd).1) .nil) fun ρ τ =>
    lp_mid w b c T TI E L a d io dio q1 q2 l te tb hl after rest [] (p + 1) 47 _ _ _ _ _ hs (rd_some hd).2 hp' (by simp; omega) nc st p' h
theorem lp_end (hl : l.length ≤ sizeLine) (tt tp : Tok) :
    Spec (VW (wF w b c)) none 6 (rtC (wF w b c).params L) (rtD (wF w b c).params T TI L a d io dio q1 q2 l (rtF0 (wF w b c).params E a te) .none (.str ⟨⟨[]⟩⟩ tt) l.length tb tp)
      (LpP T TI E L a d io dio q1 q2 l te tb (wF w b c).params [] [] stNone l.length) :=
  spec_run (fun ρ τ => tn_run w b c ρ τ T TI E L a d io dio q1 q2 l te tb tp tt l.length) (Oks.cons (fun _ _ => kRead_ok _ _ _ _ _ _ _ _ _ _ _ _ hl (rd_none (by simp) (Nat.le_refl _))) .nil) fun ρ τ => ⟨_, _, 0, _, _, rfl, rfl⟩
end
noncomputable def kLp (P : Params) (T TI E : Nat → Tok) (L a d io dio q1 q2 : Addr) (l : List Nat) (te tb : Tok) (st tk : Value) (p : Nat) (tp : Tok) (nc word : List Nat) (st' : Tok → Value) (p' : Nat) : Cut :=
  ⟨none, rtC P L, rtD P T TI L a d io dio q1 q2 l (rtF0 P E a te) st tk p tb tp, 6, 0, 5, fun _ _ => .ok .next,
    fun _ ts => [rtF1 P E a te (hd0 ts) (.str ⟨⟨nc⟩⟩ (hd1 ts)), instO 732 d, lexD P T io q1 q2 (st' (hd2 ts)) (.str ⟨⟨word⟩⟩ (hd3 ts)), instO 597 dio, ioD P TI l tb p' (hd4 ts)], fun _ _ => [], none⟩
theorem kLp_ok {w : World} {b c : Bool} {T TI E : Nat → Tok} {L a d io dio q1 q2 : Addr} {l : List Nat} {te tb : Tok} {st tk : Value} {p : Nat} {tp : Tok} {nc word : List Nat} {st' : Tok → Value} {p' : Nat}
    (h : Spec (VW (wF w b c)) none 6 (rtC (wF w b c).params L) (rtD (wF w b c).params T TI L a d io dio q1 q2 l (rtF0 (wF w b c).params E a te) st tk p tb tp) (LpP T TI E L a d io dio q1 q2 l te tb (wF w b c).params nc word st' p')) :
    Cut.Ok (VW (wF w b c)) (kLp (wF w b c).params T TI E L a d io dio q1 q2 l te tb st tk p tp nc word st' p') :=
  h.mono (Nat.le_refl _) fun r D x => by
    obtain ⟨kn, tc, ts, tt, tp', rfl, rfl⟩ := x
    exact ⟨[], [kn, tc, ts, tt, tp'], rfl, rfl, rfl, rfl⟩
noncomputable def E3 (x y z : Tok) : Nat → Tok := fun k => match k with
  | 0 => x
  | 1 => y
  | _ => z
end Mine
end
section
open PySem PySem.W PySem.W.X PyProof.Rows
set_option Elab.async false
set_option maxRecDepth 100000
namespace Mine
noncomputable def dqO : Obj := ⟨.type "collections.deque", none, .fields ⟨[.none, .int 0 0]⟩, ⟨[]⟩⟩
section
variable (P : Params) (T TI : Nat → Tok) (a d io dio q1 q2 : Addr) (l : List Nat) (tb : Tok)
noncomputable def lexL (st tk : Value) (p : Nat) (tp : Tok) : Dyn := [(a, instO 732 d), (d, lexD P T io q1 q2 st tk), (io, instO 597 dio), (dio, ioD P TI l tb p tp), (q1, dqO), (q2, dqO)]
noncomputable def lexO (st tk : Value) (p : Nat) (tp : Tok) : List Obj := [instO 732 d, lexD P T io q1 q2 st tk, instO 597 dio, ioD P TI l tb p tp, dqO, dqO]
noncomputable def kNx (ts tt tp : Tok) (p : Nat) (word : List Nat) (st' : Tok → Value) (p' : Nat) : Cut :=
  ⟨none, .call (.ref 729) ⟨[.ref a], []⟩, lexL P T TI a d io dio q1 q2 l tb (chS 32 ts) (.str ⟨⟨[]⟩⟩ tt) p tp, 9, 0, 4, fun _ ts => .ok (.ret (.str ⟨⟨word⟩⟩ (hd0 ts))),
    fun _ ts => lexO P T TI d io dio q1 q2 l tb (st' (hd1 ts)) (.str ⟨⟨[]⟩⟩ (hd2 ts)) p' (hd3 ts), fun _ _ => [], none⟩
noncomputable def nxK (ts tt tp : Tok) (p : Nat) (nc word : List Nat) (st' : Tok → Value) (p' : Nat) : List (Of Cut) := [
  fun ρ τ => kLp P T TI (E3 (τ 5) (τ 6) (τ 8)) (ρ 2) a d io dio q1 q2 l (τ 7) tb (chS 32 ts) (.str ⟨⟨[]⟩⟩ tt) p tp nc word st' p']
noncomputable def nxZ (word : List Nat) (st' : Tok → Value) (p' : Nat) : Of Fini := fun _ τ => ⟨.inl (.ok (.ret (.str ⟨⟨word⟩⟩ (τ 12)))), lexL P T TI a d io dio q1 q2 l tb (st' (τ 11)) (.str ⟨⟨[]⟩⟩ (τ 16)) p' (τ 13)⟩
end
end Mine
end
section
open PySem PySem.W PySem.W.X PyProof.Rows
set_option Elab.async false
set_option maxRecDepth 100000
namespace Mine
noncomputable def nxEnv (P : Params) (L : Addr) : Env := (entOf (o729 P) 729 L).env
noncomputable def nxBody (P : Params) : List Stmt := (entOf (o729 P) 729 0).body
noncomputable def nxC (P : Params) (L : Addr) : Code := .func (nxBody P) (nxEnv P L)
noncomputable def nxF0 (P : Params) (k : Tok) (a : Addr) : Obj := ⟨.type "frame", none, .dict ⟨[en P ⟨⟨[115, 101, 108, 102]⟩⟩ k (.ref a)]⟩ 1, ⟨[]⟩⟩
noncomputable def nxF1 (P : Params) (k k' : Tok) (a : Addr) : Obj := ⟨.type "frame", none, .dict ⟨[en P ⟨⟨[115, 101, 108, 102]⟩⟩ k (.ref a), en P ⟨⟨[116, 111, 107, 101, 110]⟩⟩ k' .none]⟩ 2, ⟨[]⟩⟩
noncomputable def exO2 (t : Addr) : Obj := ⟨.type "StopIteration", none, .fields ⟨[.ref t, .none, .none, .none, .bool false, .none]⟩, ⟨[]⟩⟩
noncomputable def exO3 (t tb : Addr) : Obj := ⟨.type "StopIteration", none, .fields ⟨[.ref t, .ref tb, .none, .none, .bool false, .none]⟩, ⟨[]⟩⟩
section
variable (P : Params) (T TI : Nat → Tok) (a d io dio q1 q2 : Addr) (l : List Nat) (tb : Tok) (Ll Ls : Addr) (fl fs : Obj)
noncomputable def neL (tk : Value) (tp : Tok) : Dyn := (Ls, fs) :: (Ll, fl) :: lexL P T TI a d io dio q1 q2 l tb .none tk l.length tp
noncomputable def ne0Z (tk : Value) (tp : Tok) : Of Fini := fun ρ τ => ⟨.inr (nxC P (ρ 0)), (ρ 0, nxF0 P (τ 0) a) :: neL P T TI a d io dio q1 q2 l tb Ll Ls fl fs tk tp⟩
noncomputable def neZ (k : Tok) (L : Addr) : Of Fini := fun ρ τ => ⟨.inl (.error (.ref (ρ 2))), (ρ 2, exO2 (ρ 4)) :: (L, nxF1 P k (τ 30) a) :: neL P T TI a d io dio q1 q2 l tb Ll Ls fl fs (.str ⟨⟨[]⟩⟩ (τ 15)) (τ 12)⟩
noncomputable def neK (tt tp : Tok) : List (Of Cut) := [
  fun ρ τ => kLp P T TI (E3 (τ 4) (τ 5) (τ 7)) (ρ 1) a d io dio q1 q2 l (τ 6) tb .none (.str ⟨⟨[]⟩⟩ tt) l.length tp [] [] stNone l.length, fun _ _ => kEN]
noncomputable def kNe (e1 e2 : Env) (tt tp : Tok) : Cut := ⟨some [e1, e2], .call (.ref 729) ⟨[.ref a], []⟩, (Ll, fl) :: (lexL P T TI a d io dio q1 q2 l tb .none (.str ⟨⟨[]⟩⟩ tt) l.length tp ++ [(Ls, fs)]), 9, 3, 3, fun as _ => .error (.ref (hd0 as)),
  fun _ ts => readyO e2 (bkV (hd0 ts)) fl :: lexO P T TI d io dio q1 q2 l tb .none (.str ⟨⟨[]⟩⟩ (hd1 ts)) l.length (hd2 ts), fun as _ => [exO3 (hd1 as) (hd2 as)], none⟩
end
end Mine
end
section
open PySem PySem.W PySem.W.X PyProof.Rows
set_option Elab.async false
set_option maxRecDepth 100000
namespace Mine
noncomputable def atN : List Nat → Nat → Nat
  | [], _ => 0
  | x :: l, k => match k with
    | 0 => x
    | k + 1 => atN l k
noncomputable def tokF (τ : Nat → Tok) (l : List Nat) : Nat → Tok := fun k => τ (atN l k)
noncomputable def spT : List Nat := [36, 38, 40, 42, 45, 48, 57, 59, 62, 65, 68, 71, 73, 76, 79, 82, 84, 86, 90, 0, 0, 0, 0, 0, 96, 52, 55, 0, 60, 63, 66, 0, 0, 74, 77, 0, 0, 0, 87]
noncomputable def spTI : List Nat := [19, 22, 25]
noncomputable def spF (P : Params) (k0 k1 k2 k3 : Tok) (l : List Nat) (tl : Tok) (x : Addr) : Obj := ⟨.type "frame", none, .dict ⟨[en P ⟨⟨[115]⟩⟩ k0 (.str ⟨⟨l⟩⟩ tl), en P ⟨⟨[99, 111, 109, 109, 101, 110, 116, 115]⟩⟩ k1 (.bool false),
  en P ⟨⟨[112, 111, 115, 105, 120]⟩⟩ k2 (.bool true), en P ⟨⟨[108, 101, 120]⟩⟩ k3 (.ref x)]⟩ 4, ⟨[]⟩⟩
noncomputable def spEnv (P : Params) (L : Addr) : Env := (entOf (o744 P) 744 L).env
section
variable (P : Params) (T TI : Nat → Tok) (a d io dio q1 q2 : Addr) (l : List Nat) (tl : Tok) (Ll Ls : Addr) (fl fs : Obj) (e1 e2 : Env) (w0 w1 : List Nat) (p1 : Nat)
noncomputable def liL (A : Addr) (tk : Value) (ts : Tok) (tp : Tok) : Dyn := (A, listO []) :: (Ll, fl) :: (lexL P T TI a d io dio q1 q2 l tl (chS 32 ts) tk 0 tp ++ [(Ls, fs)])
noncomputable def liK (ts tt tp : Tok) : List (Of Cut) := [
  fun _ _ => kNx P T TI a d io dio q1 q2 l tl ts tt tp 0 w0 (chS 32) p1,
  fun _ τ => kNx P T TI a d io dio q1 q2 l tl (τ 2) (τ 3) (τ 4) p1 w1 stNone l.length,
  fun _ τ => kNe P T TI a d io dio q1 q2 l tl Ll Ls fl fs e1 e2 (τ 7) (τ 8)]
noncomputable def liZ (A : Addr) : Of Fini := fun _ τ => ⟨.inl (.ok (.ret .none)), [(A, listN [.str ⟨⟨w0⟩⟩ (τ 1), .str ⟨⟨w1⟩⟩ (τ 5)] 4), (Ll, readyO e2 (bkV (τ 9)) fl)]⟩
noncomputable def kLI (A : Addr) (ts tt tp : Tok) : Cut := ⟨some [e1, e2], .builtin "list.__init__" ⟨[.ref A, .ref a], []⟩, liL P T TI a d io dio q1 q2 l tl Ll Ls fl fs A (.str ⟨⟨[]⟩⟩ tt) ts tp, 10, 0, 3, fun _ _ => .ok (.ret .none),
  fun _ ts => [listN [.str ⟨⟨w0⟩⟩ (hd1 ts), .str ⟨⟨w1⟩⟩ (hd2 ts)] 4, readyO e2 (bkV (hd0 ts)) fl], fun _ _ => [], none⟩
end
section
variable (P : Params) (l : List Nat) (tl : Tok) (Ll : Addr) (fl : Obj) (e2 : Env) (w0 w1 : List Nat)
noncomputable def spK : List (Of Cut) := [fun ρ _ => kLN (.ref (ρ 2)),
  fun ρ τ => kLI P (tokF τ spT) (tokF τ spTI) (ρ 2) (ρ 1) (ρ 8) (ρ 7) (ρ 11) (ρ 12) l tl Ll (ρ 0) fl (spF P (τ 0) (τ 1) (τ 2) (τ 93) l tl (ρ 2)) (spEnv P (ρ 0)) e2 w0 w1 (ρ 13) (τ 69) (τ 80) (τ 23)]
noncomputable def spZ : Of Fini := fun ρ τ => ⟨.inl (.ok (.ret (.ref (ρ 13)))), [(Ll, readyO e2 (bkV (τ 99)) fl), (ρ 13, listN [.str ⟨⟨w0⟩⟩ (τ 100), .str ⟨⟨w1⟩⟩ (τ 101)] 4)]⟩
noncomputable def kSp : Cut := ⟨some [e2], .call (.ref 744) ⟨[.str ⟨⟨l⟩⟩ tl], []⟩, [(Ll, fl)], 14, 1, 3, fun as _ => .ok (.ret (.ref (hd0 as))), fun _ ts => [readyO e2 (bkV (hd0 ts)) fl], fun _ ts => [listN [.str ⟨⟨w0⟩⟩ (hd1 ts), .str ⟨⟨w1⟩⟩ (hd2 ts)] 4], none⟩
end
end Mine
end
section
open PySem PySem.W PySem.W.X PyProof.Rows
set_option Elab.async false
set_option maxRecDepth 100000
namespace Mine
noncomputable def forC : Stmt → Value → Env → Code
  | .For t _ b e _, it, env => .forLoop t it b e env
  | _, it, _ => .call it ⟨[], []⟩
noncomputable def jnS (P : Params) : Stmt := stAt (tryB (stAt (bodyOf (o846 P)) 3)) 0
noncomputable def jnEnv (P : Params) (L : Addr) : Env := (entOf (o846 P) 846 L).env
noncomputable def jnC (P : Params) (L it : Addr) : Code := forC (jnS P) (.ref it) (jnEnv P L)
noncomputable def frO (l : List DictEntry) : Obj := ⟨.type "frame", none, .dict ⟨l⟩ l.length, ⟨[]⟩⟩
noncomputable def E4 (x y z u : Tok) : Nat → Tok := fun k => match k with
  | 0 => x
  | 1 => y
  | 2 => z
  | _ => u
section
variable (P : Params) (E : Nat → Tok) (L it pt : Addr) (ta ts : Tok) (vs : List Value)
noncomputable def jF0 : Obj := frO [en P ⟨⟨[97]⟩⟩ (E 0) (sv [47] ta), en P ⟨⟨[112]⟩⟩ (E 1) (.ref pt), en P ⟨⟨[115, 101, 112]⟩⟩ (E 2) (sv [47] ts), en P ⟨⟨[112, 97, 116, 104]⟩⟩ (E 3) (sv [47] ta)]
noncomputable def jF1 (kb : Tok) (b path : Value) : Obj := frO [en P ⟨⟨[97]⟩⟩ (E 0) (sv [47] ta), en P ⟨⟨[112]⟩⟩ (E 1) (.ref pt), en P ⟨⟨[115, 101, 112]⟩⟩ (E 2) (sv [47] ts), en P ⟨⟨[112, 97, 116, 104]⟩⟩ (E 3) path, en P ⟨⟨[98]⟩⟩ kb b]
noncomputable def jD (fr : Obj) (i : Nat) : Dyn := [(L, fr), (it, itO "tuple_iterator" pt i), (pt, sqO "tuple" vs 0)]
noncomputable def j0K (s : List Nat) (t0 : Tok) : List (Of Cut) := [fun _ _ => kTN it pt 0 vs (sv s t0), fun _ _ => kV "str.startswith" [sv s t0, sv [47] ts] (.bool false), fun _ _ => kS "str.__add__" [sv [47] ta, sv s t0] ⟨⟨47 :: s⟩⟩]
noncomputable def j0Z (s : List Nat) (t0 : Tok) : Of Fini := fun _ τ => ⟨.inr (jnC P L it), jD L it pt vs (jF1 P E pt ta ts (τ 0) (sv s t0) (sv (47 :: s) (τ 6))) 1⟩
noncomputable def j1K (i : Nat) (u : List Nat) (tu : Tok) (s : List Nat) (t0 : Tok) : List (Of Cut) := [fun _ _ => kTN it pt i vs (sv s t0), fun _ _ => kV "str.startswith" [sv s t0, sv [47] ts] (.bool false), fun _ _ => kI "len" [sv (47 :: u) tu] (.ofNat (47 :: u).length),
  fun _ _ => kV "str.endswith" [sv (47 :: u) tu, sv [47] ts] (.bool false), fun _ _ => kS "str.__add__" [sv [47] ts, sv s t0] ⟨⟨47 :: s⟩⟩, fun _ τ => kS "str.__add__" [sv (47 :: u) tu, sv (47 :: s) (τ 5)] ⟨⟨47 :: (u ++ 47 :: s)⟩⟩]
noncomputable def j1Z (i : Nat) (kb : Tok) (u : List Nat) (s : List Nat) (t0 : Tok) : Of Fini := fun _ τ => ⟨.inr (jnC P L it), jD L it pt vs (jF1 P E pt ta ts kb (sv s t0) (sv (47 :: (u ++ 47 :: s)) (τ 6))) (i + 1)⟩
noncomputable def jeK : List (Of Cut) := [fun _ _ => kTE it pt vs]
noncomputable def jeZ (kb : Tok) (bv : Value) (u : List Nat) (tu : Tok) : Of Fini := fun _ _ => ⟨.inl (.ok .next), [(L, jF1 P E pt ta ts kb bv (sv (47 :: u) tu))]⟩
end
noncomputable abbrev Sts := List (List Nat × Tok)
noncomputable def vsO : Sts → List Value
  | [] => []
  | p :: l => sv p.1 p.2 :: vsO l
noncomputable def wordO : Sts → List Nat
  | [] => []
  | p :: l => 47 :: (p.1 ++ wordO l)
noncomputable def kJl (P : Params) (E : Nat → Tok) (L it pt : Addr) (ta ts : Tok) (l : Sts) : Cut := ⟨none, jnC P L it, jD L it pt (vsO l) (jF0 P E pt ta ts) 0, 6, 0, 4, fun _ _ => .ok .next,
  fun _ t => [jF1 P E pt ta ts (hd0 t) (sv ((l.getLast?.map (·.1)).getD []) (hd1 t)) (sv (wordO l) (hd2 t))], fun _ _ => [], none⟩
noncomputable def jnK (P : Params) (ta : Tok) (l : Sts) : List (Of Cut) := [fun ρ τ => kJl P (E4 (τ 0) (τ 1) (τ 8) (τ 9)) (ρ 1) (ρ 5) (ρ 0) ta (τ 7) l]
noncomputable def jnZ (l : Sts) : Of Fini := fun _ τ => ⟨.inl (.ok (.ret (sv (wordO l) (τ 12)))), []⟩
noncomputable def kJn (ta : Tok) (l : Sts) : Cut := ⟨none, .call (.ref 846) ⟨sv [47] ta :: vsO l, []⟩, [], 10, 0, 1, fun _ t => .ok (.ret (sv (wordO l) (hd0 t))), fun _ _ => [], fun _ _ => [], none⟩
end Mine
end
section
open PySem PySem.W PySem.W.X PyProof.Rows PySem.Builtin PySem.Builtin.Str
set_option Elab.async false
set_option maxRecDepth 100000
namespace Mine
noncomputable def kLA (a b : Addr) (va vb : List Value) (na nb : Nat) : Cut := ⟨none, .builtin "list.__add__" ⟨[.ref a, .ref b], []⟩, [(a, listN va na), (b, listN vb nb)], 0, 1, 0, fun as _ => .ok (.ret (.ref (hd0 as))),
  fun _ _ => [listN va na, listN vb nb], fun _ _ => [listN (va ++ vb) 0], none⟩
theorem kLA_ok {w : World} {a b : Addr} {va vb : List Value} {na nb : Nat} (hl : va.length + vb.length ≤ sizeLine) : Cut.Ok (VW w) (kLA a b va vb na nb) := by
  intro A s R _ _ hS ht hR
  have ha : s.heap.get? a = some (listN va na) := hS.has _ (.head _)
  have hb : s.heap.get? b = some (listN vb nb) := hS.has _ (.tail _ (.head _))
  refine codeAny_builtin F.entry_list_add ?_
  rw [Around.under_plainId (by decide +kernel)]
  refine AutoSeq1.list___add___list_list_0 a ⟨va⟩ na b ⟨vb⟩ nb (by simpa using hl) pw w A R s ⟨ha, hb, ?_⟩
  have G := (Got.start hS).alloc (o := listN (va ++ vb) 0) rfl
  have e : (⟨va⟩ ++ ⟨vb⟩ : Array Value) = ⟨va ++ vb⟩ := by simp
  rw [e]
  exact hR _ _ _ _ ⟨[s.heap.objs.size], [], rfl, rfl, rfl, rfl⟩ (G.perm (List.perm_append_comm (l₁ := [_]) (l₂ := [(a, listN va na), (b, listN vb nb)]))) ht
noncomputable def kLG (a : Addr) (vs : List Value) (n : Nat) (i : Nat) (t : Tok) (v : Value) : Cut := ⟨none, .builtin "list.__getitem__" ⟨[.ref a, .int (.ofNat i) t], []⟩, [(a, listN vs n)], 0, 0, 0, fun _ _ => .ok (.ret v), fun _ _ => [listN vs n], fun _ _ => [], none⟩
theorem fits_small {i : Nat} (h : i < 1000000) : Builtin.List.listFitsIndex (.ofNat i) = true := fitsIndex_of (Int.natCast_nonneg i) (Int.lt_of_lt_of_le (Int.ofNat_lt.mpr h) (by decide))
theorem list_item {w : World} {A : Around} {E : Value → Shared → Prop} {s : Shared} {a : Addr} {vs : Array Value} {n : Nat} {k : Int} {t : Tok} {v : Value} {R : Result → Shared → Prop} (ha : s.heap.get? a = some { cls := .type "list", dict := none, data := .seq vs n, slots := #[] })
    (h0 : 0 ≤ k) (hf : Builtin.List.listFitsIndex k = true) (hv : vs[k.toNat]? = some v) (h : R (.ok (.ret v)) s) : wpAny (model pw w) A (Builtin.«list.__getitem__» ⟨[.ref a, .int k t], []⟩) (fun fin s' => ∃ r, fin = .done r ∧ R (.ok r) s') E s := by
  show wpAny _ _ (Builtin.List.listSubscript? (.int k t) >>= _) _ _ s
  refine wpAny_bind (wpAny_listSubscript_int hf ?_)
  clear hf
  obtain ⟨j, rfl⟩ := Int.eq_ofNat_of_zero_le h0
  have hv' : vs[j]? = some v := hv
  show wpAny _ _ ((seqItemAt a j >>= fun r => pure (r.map (j, ·))) >>= _) _ _ s
  refine wpAny_bind (wpAny_bind (wpAny_seqItemAt ha rfl (wpAny_pure ?_)))
  rw [hv']
  first
    | exact wpAny_bind (wpAny_pure (wpAny_pure ⟨_, rfl, h⟩))
    | exact wpAny_pure ⟨_, rfl, h⟩
theorem kLG_ok {w : World} {a : Addr} {vs : List Value} {n i : Nat} {t : Tok} {v : Value} (hv : vs[i]? = some v) (hi : i < 1000000) : Cut.Ok (VW w) (kLG a vs n i t v) := by
  intro A s R _ _ hS ht hR
  have ha : s.heap.get? a = some (listN vs n) := hS.has _ (.head _)
  refine codeAny_builtin F.entry_list_getitem ?_
  rw [Around.under_plainId (by decide +kernel)]
  have h0 : (0 : Int) ≤ Int.ofNat i := Int.natCast_nonneg i
  have hg := get_list hv
  have fin := hR (.ok (.ret v)) _ _ _ ⟨[], [], rfl, rfl, rfl, rfl⟩ (Got.start hS) ht
  have hf := fits_small hi
  clear hi
  show wpAny _ _ (Builtin.«list.__getitem__» ⟨[.ref a, .int (.ofNat i) t], []⟩) _ _ s
  generalize Int.ofNat i = k at h0 hg hf
  refine wpAny_mono (list_item (R := R) ha h0 hf hg fin) (fun fin s' h => ?_) fun _ _ e => e
  obtain ⟨r, rfl, h⟩ := h
  exact h
noncomputable def kLS (a : Addr) (vs : List Value) (n : Nat) (sa : Addr) (l u : Option (Int × Tok)) (ys : List Value) : Cut := ⟨none, .builtin "list.__getitem__" ⟨[.ref a, .ref sa], []⟩, [(a, listN vs n), (sa, sliceO l u)], 0, 1, 0, fun as _ => .ok (.ret (.ref (hd0 as))),
  fun _ _ => [listN vs n, sliceO l u], fun _ _ => [listN ys 0], none⟩
theorem isPart_of (l : Option (Int × Tok)) : IsPart (partValue l) (l.map (·.1)) := by
  cases l with
  | none => exact .none
  | some p => exact .int _ _
theorem kLS_ok {w : World} {a sa : Addr} {vs ys : List Value} {n : Nat} {l u : Option (Int × Tok)} (hp : slicePick ⟨vs⟩ (l.map (·.1)) (u.map (·.1)) none = ⟨ys⟩) (hsz : vs.length ≤ sizeLine) : Cut.Ok (VW w) (kLS a vs n sa l u ys) := by
  intro A s R _ _ hS ht hR
  have ha : s.heap.get? a = some (listN vs n) := hS.has _ (.head _)
  have hs : s.heap.get? sa = some (sliceO l u) := hS.has _ (.tail _ (.head _))
  have hTs : s.TypeIs (.ref sa) "slice" := ⟨_, hs, rfl⟩
  have G := (Got.start hS).alloc (o := listN ys 0) rfl
  have fin := hR (.ok (.ret (.ref s.heap.objs.size))) _ _ s.toks ⟨[s.heap.objs.size], [], rfl, rfl, rfl, rfl⟩ (G.perm (List.perm_append_comm (l₁ := [_]) (l₂ := [(a, listN vs n), (sa, sliceO l u)]))) ht
  refine codeAny_builtin F.entry_list_getitem ?_
  rw [Around.under_plainId (by decide +kernel)]
  show wpAny _ _ (Builtin.List.listSubscript? (.ref sa) >>= _) _ _ s
  refine wpAny_bind ?_
  unfold Builtin.List.listSubscript?
  refine wpAny_bind (wpAny_specialOf hTs slice_no_index ?_)
  simp only [Option.isNone_none, if_true]
  refine wpAny_pure ?_
  show wpAny _ _ (typeOf (.ref sa) >>= _) _ _ s
  refine wpAny_bind (wpAny_typeOf hTs ?_)
  rw [if_neg (by decide)]
  rw [listSliceParts_eq]
  refine wpAny_bind (wpAny_bind (wpAny_field hs rfl (x := .none) rfl (wpAny_bind (wpAny_listPart .none ?_))))
  rw [if_neg (show ¬ ((rawPart none == rawInt 0) = true) from Bool.false_ne_true)]
  refine wpAny_bind (wpAny_field hs rfl (x := partValue l) rfl (wpAny_bind (wpAny_listPart (isPart_of l) ?_)))
  refine wpAny_bind (wpAny_field hs rfl (x := partValue u) rfl (wpAny_bind (wpAny_listPart (isPart_of u) (wpAny_pure ?_))))
  refine wpAny_bind (m := Builtin.List.listItems (.ref a)) ?_
  unfold Builtin.List.listItems
  refine wpAny_bind (wpAny_seqItems ha rfl (wpAny_pure ?_))
  refine wpAny_bind (wpAny_of_eq (sliceIndices_raw (l.map (·.1)) (u.map (·.1)) none (⟨vs⟩ : Array Value).size (by simp)) ?_)
  refine wpAny_bind (wpAny_newObj_type (wpAny_pure ?_) (Nat.le_trans (slicePick_size_le ⟨vs⟩ (l.map (·.1)) (u.map (·.1)) none) hsz))
  have e : ((sliceRange (sliceBounds (l.map (·.1)) (u.map (·.1)) none (⟨vs⟩ : Array Value).size).1 (sliceBounds (l.map (·.1)) (u.map (·.1)) none (⟨vs⟩ : Array Value).size).2.1 (sliceBounds (l.map (·.1)) (u.map (·.1)) none (⟨vs⟩ : Array Value).size).2.2).filterMap ((⟨vs⟩ : Array Value)[·]?)).toArray = ⟨ys⟩ := hp
  rw [e]
  exact fin
theorem pick_drop (vs : List Value) (k : Nat) (hk : k ≤ vs.length) : slicePick ⟨vs⟩ (some (.ofNat k)) none none = ⟨vs.drop k⟩ := by
  have e : sliceBounds (some (Int.ofNat k)) none none (⟨vs⟩ : Array Value).size = ((k : Int), (vs.length : Int), 1) := by
    have h1 : ¬ ((k : Int) < 0) := by omega
    have e1 : max (0 : Int) (min ((k : Nat) : Int) (vs.length : Int)) = k := by omega
    show ((if (1 : Int) > 0 then max 0 (min (if (k : Int) < 0 then (k : Int) + (vs.length : Int) else (k : Int)) (vs.length : Int)) else _), _, _) = _
    rw [if_neg h1, if_pos (by decide), e1]
    rfl
  rw [kmk_pick_nat _ e]
  show (⟨((vs.drop k).take (vs.length - k))⟩ : Array Value) = _
  rw [List.take_of_length_le (by simp)]
noncomputable def kLP (a : Addr) (vs : List Value) (n : Nat) (v : Value) : Cut := ⟨none, .builtin "list.append" ⟨[.ref a, v], []⟩, [(a, listN vs n)], 0, 0, 0, fun _ _ => .ok (.ret .none), fun _ _ => [listN (vs ++ [v]) (n + 1)], fun _ _ => [], none⟩
theorem kLP_ok {w : World} {a : Addr} {vs : List Value} {n : Nat} {v : Value} (hl : vs.length ≤ sizeLine) : Cut.Ok (VW w) (kLP a vs n v) := by
  intro A s R _ _ hS ht hR
  have ha : s.heap.get? a = some (listN vs n) := hS.has _ (.head _)
  obtain ⟨_, G⟩ := (Got.start hS).up0 (f := Obj.mapSeq fun x => x.push v) rfl
  refine codeAny_builtin F.entry_list_append ?_
  rw [Around.under_plainId (by decide +kernel)]
  refine list_append a ⟨vs⟩ n v hl pw w A R s ⟨ha, ?_⟩
  have e : Obj.mapSeq (fun x => x.push v) (listN vs n) = listN (vs ++ [v]) (n + 1) := by
    show (⟨_, _, .seq ((⟨vs⟩ : Array Value).push v) (if ((⟨vs⟩ : Array Value).push v).size == (⟨vs⟩ : Array Value).size then n else n + 1), _⟩ : Obj) = _
    have : ((⟨vs⟩ : Array Value).push v).size = vs.length + 1 := by simp
    have h2 : (((⟨vs⟩ : Array Value).push v).size == (⟨vs⟩ : Array Value).size) = false := by rw [this]; simp
    rw [h2, if_neg Bool.false_ne_true]
    simp [listN]
  rw [e] at G
  exact hR _ _ _ _ ⟨[], [], rfl, rfl, rfl, rfl⟩ G ht
noncomputable def kSJ (sep : List Nat) (ts : Tok) (a : Addr) (l : Sts) (n : Nat) (y : List Nat) : Cut := ⟨none, .builtin "str.join" ⟨[sv sep ts, .ref a], []⟩, [(a, listN (vsO l) n)], 0, 0, 1, fun _ t => .ok (.ret (sv y (hd0 t))), fun _ _ => [listN (vsO l) n], fun _ _ => [], none⟩
theorem vsO_values : ∀ l : Sts, vsO l = strValues (l.map fun p => ((⟨⟨p.1⟩⟩ : Str), p.2))
  | [] => rfl
  | _ :: l => congrArg _ (vsO_values l)
theorem kSJ_ok {w : World} {sep : List Nat} {ts : Tok} {a : Addr} {l : Sts} {n : Nat} {y : List Nat} (hj : Str.join ⟨⟨sep⟩⟩ (l.map fun p => (⟨⟨p.1⟩⟩ : Str)) = ⟨⟨y⟩⟩) (hl : (l.map fun p => p.1.length).sum + l.length * sep.length ≤ sizeLine) : Cut.Ok (VW w) (kSJ sep ts a l n y) := by
  intro A s R _ _ hS ht hR
  have ha : s.heap.get? a = some (listN (vsO l) n) := hS.has _ (.head _)
  have fin : ∀ t k, 0 < k → R (.ok (.ret (sv y t))) ⟨s.heap, s.gens, s.drawn, k, s.os⟩ := fun t k hk => hR _ _ _ _ ⟨[], [t], rfl, rfl, rfl, rfl⟩ (Got.start hS) hk
  refine codeAny_builtin F.entry_str_join ?_
  rw [Around.under_plainId (by decide +kernel)]
  have em : (l.map fun p => ((⟨⟨p.1⟩⟩ : Str), p.2)).map (·.1) = l.map fun p => (⟨⟨p.1⟩⟩ : Str) := by rw [List.map_map]; rfl
  have tl : Builtin.Str.tooLong (((l.map fun p => ((⟨⟨p.1⟩⟩ : Str), p.2)).map (·.1)).toArray.foldl (· + ·.length + (⟨⟨sep⟩⟩ : Str).length) 0) = false := by
    rw [em]
    have e := StrLaws.joinTotal ⟨⟨sep⟩⟩ (l.map fun p => (⟨⟨p.1⟩⟩ : Str))
    rw [e]
    have e2 : ((l.map fun p => (⟨⟨p.1⟩⟩ : Str)).map (·.length)).sum = (l.map fun p => p.1.length).sum := by rw [List.map_map]; rfl
    rw [e2, List.length_map]
    show decide (_ > sizeLine) = false
    rw [decide_eq_false_iff_not]
    have : (⟨⟨sep⟩⟩ : Str).length = sep.length := rfl
    rw [this]
    omega
  refine meets_str_join_list ⟨⟨sep⟩⟩ ts a (l.map fun p => ((⟨⟨p.1⟩⟩ : Str), p.2)) tl pw w A R s ⟨⟨_, ha, rfl, n, ?_⟩, ?_⟩
  · rw [← vsO_values]
    rfl
  · have ln := joinFit_length tl
    have ej : Txt.join ⟨⟨sep⟩⟩ ((l.map fun p => ((⟨⟨p.1⟩⟩ : Str), p.2)).map (·.1)) = ⟨⟨y⟩⟩ := by
      rw [em, ← hj]
      exact StrLaws.glued_eq_join _ _
    rw [ej] at ln
    match l, ej with
    | [], ej => exact ⟨(show (Txt.join ⟨⟨sep⟩⟩ []).length ≤ sizeLine from by rw [show Txt.join ⟨⟨sep⟩⟩ [] = _ from ej]; exact ln), (show R (.ok (.ret (.str (Txt.join ⟨⟨sep⟩⟩ []) s.toks))) _ from by rw [show Txt.join ⟨⟨sep⟩⟩ [] = _ from ej]; exact fin _ _ (Nat.succ_pos _))⟩
    | [p], ej =>
      have : (⟨⟨p.1⟩⟩ : Str) = ⟨⟨y⟩⟩ := ej
      show R (.ok (.ret (.str ⟨⟨p.1⟩⟩ p.2))) s
      rw [this]
      exact fin p.2 s.toks ht
    | p :: q :: r, ej =>
      refine ⟨?_, ?_⟩
      · exact (show (Txt.join ⟨⟨sep⟩⟩ (((p :: q :: r).map fun p => ((⟨⟨p.1⟩⟩ : Str), p.2)).map (·.1))).length ≤ sizeLine from by rw [ej]; exact ln)
      · show R (.ok (.ret (.str (Txt.join ⟨⟨sep⟩⟩ (((p :: q :: r).map fun p => ((⟨⟨p.1⟩⟩ : Str), p.2)).map (·.1))) s.toks))) _
        rw [ej]
        exact fin _ _ (Nat.succ_pos _)
end Mine
end
section
open PySem PySem.W PySem.W.X PyProof.Rows PySem.Builtin PySem.Builtin.Str
set_option Elab.async false
set_option maxRecDepth 100000
namespace Mine
noncomputable def spl : Nat → Nat → Nat × Nat
  | 0, n => (0, n)
  | k + 1, n => if n % 2 = 1 then (0, n / 2) else ((spl k (n / 2)).1 + 1, (spl k (n / 2)).2)
theorem spl_is : ∀ (a k b : Nat), a ≤ k → spl (k + 1) (2 ^ a * (2 * b + 1)) = (a, b)
  | 0, k, b, _ => by
    unfold spl
    have : (2 ^ 0 * (2 * b + 1)) % 2 = 1 := by omega
    rw [if_pos this]
    have : (2 ^ 0 * (2 * b + 1)) / 2 = b := by omega
    rw [this]
  | a + 1, 0, b, h => by omega
  | a + 1, k + 1, b, h => by
    unfold spl
    have e : 2 ^ (a + 1) * (2 * b + 1) = 2 * (2 ^ a * (2 * b + 1)) := by rw [Nat.pow_succ, Nat.mul_comm (2 ^ a) 2, Nat.mul_assoc]
    rw [e, if_neg (by omega), Nat.mul_div_cancel_left _ (by decide), spl_is a k b (by omega)]
noncomputable def unlF : Nat → Nat → List Nat
  | 0, _ => []
  | k + 1, n => if n = 0 then [] else (spl (n + 1) n).1 :: unlF k (spl (n + 1) n).2
noncomputable def enl : List Nat → Nat
  | [] => 0
  | a :: l => 2 ^ a * (2 * enl l + 1)
theorem enl_gt (a b : Nat) : a ≤ 2 ^ a * (2 * b + 1) ∧ b < 2 ^ a * (2 * b + 1) := by
  have h1 : a < 2 ^ a := Nat.lt_two_pow_self
  have h2 : 2 ^ a * 1 ≤ 2 ^ a * (2 * b + 1) := Nat.mul_le_mul_left _ (by omega)
  have h3 : 1 * (2 * b + 1) ≤ 2 ^ a * (2 * b + 1) := Nat.mul_le_mul_right _ (Nat.one_le_two_pow)
  omega
theorem unlF_is : ∀ (l : List Nat) (k : Nat), enl l ≤ k → unlF k (enl l) = l
  | [], 0, _ => rfl
  | [], k + 1, _ => rfl
  | a :: l, k, h => by
    have g := enl_gt a (enl l)
    have h : 2 ^ a * (2 * enl l + 1) ≤ k := h
    cases k with
    | zero => omega
    | succ k =>
      have e : enl (a :: l) = 2 ^ a * (2 * enl l + 1) := rfl
      unfold unlF
      rw [e, if_neg (by omega), spl_is a _ _ g.1]
      dsimp only
      rw [unlF_is l k (by omega)]
noncomputable def unl (n : Nat) : List Nat := unlF n n
theorem unl_all (l : List Nat) : ∃ n, unl n = l := ⟨enl l, unlF_is l _ (Nat.le_refl _)⟩
noncomputable abbrev Gap := Addr × Sts × Nat
noncomputable def gR : List Gap → List Value
  | [] => []
  | g :: l => .ref g.1 :: gR l
noncomputable def gD : List Gap → Dyn
  | [] => []
  | g :: l => (g.1, listN (vsO g.2.1) g.2.2) :: gD l
noncomputable def ct (G : List Gap) : List (List (List Nat)) := G.map fun g => g.2.1.map (·.1)
noncomputable def zipT : List (List Nat) → List Nat → Sts
  | [], _ => []
  | x :: l, ns => (x, hd0 ns) :: zipT l ns.tail
noncomputable def mkG : List (List (List Nat)) → List Nat → List Gap
  | [], _ => []
  | c :: l, ns => (hd0 ns, zipT c ns.tail.tail, hd1 ns) :: mkG l (ns.tail.tail.drop c.length)
theorem zipT_is : ∀ (l : Sts) (r : List Nat), zipT (l.map (·.1)) (l.map (·.2) ++ r) = l
  | [], _ => rfl
  | p :: l, r => by
    show (p.1, p.2) :: zipT (l.map (·.1)) (l.map (·.2) ++ r) = _
    rw [zipT_is l r]
theorem zipT_map : ∀ (l : List (List Nat)) (ns : List Nat), (zipT l ns).map (·.1) = l
  | [], _ => rfl
  | x :: l, ns => congrArg _ (zipT_map l ns.tail)
theorem mkG_all : ∀ G : List Gap, ∃ ns, mkG (ct G) ns = G
  | [] => ⟨[], rfl⟩
  | g :: G => by
    obtain ⟨ns, h⟩ := mkG_all G
    refine ⟨g.1 :: g.2.2 :: (g.2.1.map (·.2) ++ ns), ?_⟩
    show (g.1, zipT (g.2.1.map (·.1)) (g.2.1.map (·.2) ++ ns), g.2.2) :: mkG (ct G) ((g.2.1.map (·.2) ++ ns).drop (g.2.1.map (·.1)).length) = _
    rw [zipT_is, List.length_map, List.drop_append_of_le_length (by simp), List.drop_of_length_le (by simp), List.nil_append, h]
theorem ct_mkG : ∀ (c : List (List (List Nat))) (ns : List Nat), ct (mkG c ns) = c
  | [], _ => rfl
  | c :: l, ns => by
    show (zipT c ns.tail.tail).map (·.1) :: ct (mkG l (ns.tail.tail.drop c.length)) = _
    rw [zipT_map, ct_mkG l]
theorem gD_app : ∀ a b : List Gap, gD (a ++ b) = gD a ++ gD b
  | [], _ => rfl
  | g :: a, b => congrArg _ (gD_app a b)
theorem gR_app : ∀ a b : List Gap, gR (a ++ b) = gR a ++ gR b
  | [], _ => rfl
  | g :: a, b => congrArg _ (gR_app a b)
theorem gR_len : ∀ G : List Gap, (gR G).length = G.length
  | [] => rfl
  | _ :: G => congrArg (· + 1) (gR_len G)
theorem gR_get : ∀ (d : List Gap) (p : Gap) (r : List Gap), (gR (d ++ p :: r))[d.length]? = some (.ref p.1)
  | [], _, _ => rfl
  | _ :: d, p, r => gR_get d p r
theorem gD_perm {a b : List Gap} (h : a.Perm b) : (gD a).Perm (gD b) := by
  have e : ∀ l : List Gap, gD l = l.map fun g => (g.1, listN (vsO g.2.1) g.2.2) := fun l => by
    induction l with
    | nil => rfl
    | cons g l ih => exact congrArg _ ih
  rw [e, e]
  exact h.map _
noncomputable def asgV : Stmt → Expr
  | .Assign _ v _ => v
  | _ => .Constant .none 0 ⟨0, 0, 0, 0⟩
noncomputable def retE : Stmt → Expr
  | .Return (some v) _ => v
  | _ => .Constant .none 0 ⟨0, 0, 0, 0⟩
noncomputable def forBd : Stmt → List Stmt
  | .For _ _ b _ _ => b
  | _ => []
noncomputable def ifB : Stmt → List Stmt
  | .If _ b _ _ => b
  | _ => []
noncomputable def ifE : Stmt → List Stmt
  | .If _ _ e _ => e
  | _ => []
noncomputable def lcElt : Expr → Expr
  | .ListComp e _ _ _ => e
  | e => e
noncomputable def lcSc : Expr → Scope
  | .ListComp _ _ s _ => s
  | _ => ⟨.module, [], false, false, []⟩
noncomputable def argE : Expr → Nat → Expr
  | .Call _ l _ _, n => l.getD n (.Constant .none 0 ⟨0, 0, 0, 0⟩)
  | e, _ => e
noncomputable def strIn (n : Str) : List Str → Bool
  | [] => false
  | m :: l => n == m || strIn n l
noncomputable def cEnv (e : Expr) (own : List Str) (env : Env) (C : Addr) (cells : List (Str × Addr)) : Env :=
  { scope := { lcSc e with names := (lcSc e).names.map fun x => if (x.2 == .free && strIn x.1 own) = true then (x.1, .cell) else x }, locals := C, globals := env.globals, cells := cells, qual := env.qual, func := none, code := env.code, frame := env.frame, builtins := env.builtins }
noncomputable def entC (o : Obj) (self L : Addr) (cells : List (Str × Addr)) (stop : Bool := false) : Ent := match entOf o self L stop with
  | ⟨b, e, s⟩ => ⟨b, { e with cells := cells }, s⟩
noncomputable def cellO (v : Option Value) : Obj := ⟨.type "cell", none, .cell v, ⟨[]⟩⟩
noncomputable def dictN (l : List DictEntry) (n : Nat) : Obj := ⟨.type "dict", none, .dict ⟨l⟩ n, ⟨[]⟩⟩
section
variable (w : World) (b : Bool) (fr : Option (List Env)) (ρ : Nat → Addr) (τ : Nat → Tok) (elt tg itx : Expr) (ifs : List Expr) (gs : List Comprehension) (sc : Scope) (pos : Pos) (it : Addr) (acc : Value) (env : Env) (q : Value) (i : Nat) (k : Nat)
noncomputable abbrev lcX : Expr := .ListComp elt (⟨tg, itx, ifs, 0⟩ :: gs) sc pos
theorem cs1_run (o : Obj) : Both (runFr (wF w b true) fr ρ τ 10 (fun _ _ => ⟨.inr (.compLoop (lcX elt tg itx ifs gs sc pos) 0 (.ref it) acc env), [(it, o)]⟩) [2, 1, 0] [] [] (k + 1) (.compStart (lcX elt tg itx ifs gs sc pos) 0 (.ref it) acc env) [(it, o)]) := by
  cases b <;> exact both_of (by kernel_rfl)
end
end Mine
end
section
open PySem PySem.W PySem.W.X PyProof.Rows PySem.Builtin PySem.Builtin.Str
set_option Elab.async false
set_option maxRecDepth 100000
namespace Mine
noncomputable def itA (T : String) (fs : List Value) : Obj := ⟨.type T, none, .fields ⟨fs⟩, ⟨[]⟩⟩
section
variable (w : World) (b : Bool) (fr : Option (List Env)) (ρ : Nat → Addr) (τ : Nat → Tok) (elt tg itx : Expr) (ifs : List Expr) (gs : List Comprehension) (sc : Scope) (pos : Pos) (it : Addr) (acc : Value) (env : Env) (fs : List Value) (k : Nat)
theorem csL_run : Both (runFr (wF w b false) fr ρ τ 20 (fun _ _ => ⟨.inr (.compLoop (lcX elt tg itx ifs gs sc pos) 0 (.ref it) acc env), [(it, itA "list_iterator" fs)]⟩) [1, 1, 0, 1, 0, 1, 2, 1, 0] [] [] (k + 1) (.compStart (lcX elt tg itx ifs gs sc pos) 0 (.ref it) acc env) [(it, itA "list_iterator" fs)]) := by
  cases b <;> exact both_of (by kernel_rfl)
theorem csS_run : Both (runFr (wF w b false) fr ρ τ 20 (fun _ _ => ⟨.inr (.compLoop (lcX elt tg itx ifs gs sc pos) 0 (.ref it) acc env), [(it, itA "str_ascii_iterator" fs)]⟩) [1, 1, 0, 1, 0, 1, 2, 1, 0] [] [] (k + 1) (.compStart (lcX elt tg itx ifs gs sc pos) 0 (.ref it) acc env) [(it, itA "str_ascii_iterator" fs)]) := by
  cases b <;> exact both_of (by kernel_rfl)
theorem csR_run : Both (runFr (wF w b false) fr ρ τ 20 (fun _ _ => ⟨.inr (.compLoop (lcX elt tg itx ifs gs sc pos) 0 (.ref it) acc env), [(it, itA "range_iterator" fs)]⟩) [1, 1, 0, 1, 0, 1, 2, 1, 0] [] [] (k + 1) (.compStart (lcX elt tg itx ifs gs sc pos) 0 (.ref it) acc env) [(it, itA "range_iterator" fs)]) := by
  cases b <;> exact both_of (by kernel_rfl)
end
theorem comp_start {w : World} {b c : Bool} {fr : Option (List Env)} {elt tg itx : Expr} {ifs : List Expr} {gs : List Comprehension} {sc : Scope} {pos : Pos} {it : Addr} {acc : Value} {env : Env} {fs : List Value} {k : Nat} {T : String} {R : Dyn} {P : Result → Dyn → Prop}
    (hT : T = "list_iterator" ∨ T = "str_ascii_iterator" ∨ T = "range_iterator") (h : Spec (VW (wF w b c)) fr (k + 1) (.compLoop (lcX elt tg itx ifs gs sc pos) 0 (.ref it) acc env) ((it, itA T fs) :: R) P) :
    Spec (VW (wF w b c)) fr (k + 1) (.compStart (lcX elt tg itx ifs gs sc pos) 0 (.ref it) acc env) ((it, itA T fs) :: R) P := by
  cases c with
  | true => exact spec_run_fr R (fun ρ τ => cs1_run w b fr ρ τ elt tg itx ifs gs sc pos it acc env k _) Oks.nil fun ρ τ => h
  | false =>
    rcases hT with rfl | rfl | rfl
    · exact spec_run_fr R (fun ρ τ => csL_run w b fr ρ τ elt tg itx ifs gs sc pos it acc env fs k) Oks.nil fun ρ τ => h
    · exact spec_run_fr R (fun ρ τ => csS_run w b fr ρ τ elt tg itx ifs gs sc pos it acc env fs k) Oks.nil fun ρ τ => h
    · exact spec_run_fr R (fun ρ τ => csR_run w b fr ρ τ elt tg itx ifs gs sc pos it acc env fs k) Oks.nil fun ρ τ => h
end Mine
end
section
open PySem PySem.W PySem.W.X PyProof.Rows PySem.Builtin PySem.Builtin.Str
set_option Elab.async false
set_option maxRecDepth 100000
set_option linter.unusedVariables false
namespace Mine
noncomputable def siO (x : List Nat) (t : Tok) (i : Nat) : Obj := itA "str_ascii_iterator" [sv x t, .int (.ofNat i) 0]
noncomputable def siX (i : Nat) : Obj := itA "str_ascii_iterator" [.none, .int (.ofNat i) 0]
noncomputable def kSI (x : List Nat) (t : Tok) : Cut := ⟨none, .builtin "str.__iter__" ⟨[sv x t], []⟩, [], 0, 1, 0, fun as _ => .ok (.ret (.ref (hd0 as))), fun _ _ => [], fun _ _ => [siO x t 0], none⟩
theorem kSI_ok {w : World} {x : List Nat} {t : Tok} (ha : ∀ c ∈ x, c < 128) : Cut.Ok (VW w) (kSI x t) := by
  intro A s R _ _ hS ht hR
  have e : (⟨⟨x⟩⟩ : Str).cps.all (· < 128) = true := by
    rw [Array.all_eq_true]
    intro i hi
    have hi : i < x.length := hi
    show decide (x[i] < 128) = true
    exact decide_eq_true (ha _ (List.getElem_mem hi))
  refine codeAny_builtin F.entry_str_iter ?_
  rw [Around.under_plainId (by decide +kernel)]
  show wpAny _ _ (do ret (← newFields (if (true && (⟨⟨x⟩⟩ : Str).cps.all (· < 128)) = true then "str_ascii_iterator" else "str_iterator") [.str ⟨⟨x⟩⟩ t, rawInt 0])) _ _ s
  rw [e]
  exact wpAny_bind (wpAny_newObj_type (wpAny_pure (hR _ _ _ _ ⟨[s.heap.objs.size], [], rfl, rfl, rfl, rfl⟩ ((Got.start hS).alloc (o := siO x t 0) rfl) ht)))
noncomputable def kSN (it : Addr) (x : List Nat) (t : Tok) (i c : Nat) : Cut := ⟨none, .builtin "str_ascii_iterator.__next__" ⟨[.ref it], []⟩, [(it, siO x t i)], 0, 0, 1, fun _ ts => .ok (.ret (sv [c] (hd0 ts))), fun _ _ => [siO x t (i + 1)], fun _ _ => [], none⟩
theorem sn_body {w : World} {A : Around} {E : Value → Shared → Prop} {s : Shared} {it : Addr} {x : List Nat} {t : Tok} {i c : Nat} {Q : Fin → Shared → Prop} (ho : s.heap.get? it = some (siO x t i)) (hx : x[i]? = some c)
    (h : Q (.done (.ret (sv [c] s.toks))) ⟨s.heap.update it (Obj.mapFields (·.setIfInBounds 1 (rawInt (Int.ofNat i + 1)))), s.gens, s.drawn, s.toks + 1, s.os⟩) : wpAny (model pw w) A (Builtin.«str_ascii_iterator.__next__» ⟨[.ref it], []⟩) Q E s := by
  show wpAny _ _ (field (.ref it) 0 >>= _) _ _ s
  refine wpAny_bind (wpAny_field ho rfl (x := sv x t) rfl ?_)
  show wpAny _ _ (field (.ref it) 1 >>= _) _ _ s
  refine wpAny_bind (wpAny_field ho rfl (x := .int (.ofNat i) 0) rfl ?_)
  have hx' : (⟨⟨x⟩⟩ : Str).cps[(Int.ofNat i).toNat]? = some c := by
    show (⟨x⟩ : Array Nat)[i]? = some c
    rw [← hx]
    simp
  simp only [hx']
  exact wpAny_bind (wpAny_setField ho rfl (show 1 < 2 by decide) (wpAny_bind (wpAny_mkStr (wpAny_pure h) (by show 1 ≤ sizeLine; decide))))
theorem sx_body {w : World} {A : Around} {E : Value → Shared → Prop} {s : Shared} {it : Addr} {x : List Nat} {t : Tok} {Q : Fin → Shared → Prop} (hA : A.handled = none) (ho : s.heap.get? it = some (siO x t x.length))
    (h : ∀ h1, h1 = s.heap.update it (Obj.mapFields (·.setIfInBounds 0 .none)) → E (.ref (h1.push (tupO [])).objs.size) ⟨(h1.push (tupO [])).push (exO h1.objs.size), s.gens, s.drawn, s.toks, s.os⟩) : wpAny (model pw w) A (Builtin.«str_ascii_iterator.__next__» ⟨[.ref it], []⟩) Q E s := by
  show wpAny _ _ (field (.ref it) 0 >>= _) _ _ s
  refine wpAny_bind (wpAny_field ho rfl (x := sv x t) rfl ?_)
  show wpAny _ _ (field (.ref it) 1 >>= _) _ _ s
  refine wpAny_bind (wpAny_field ho rfl (x := .int (.ofNat x.length) 0) rfl ?_)
  have hx' : (⟨⟨x⟩⟩ : Str).cps[(Int.ofNat x.length).toNat]? = none := by
    show (⟨x⟩ : Array Nat)[x.length]? = none
    simp
  simp only [hx']
  refine wpAny_bind (wpAny_rule (wpAny_bind (wpAny_setField ho rfl (show 0 < 2 by decide) (wpAny_bind (wpAny_letGo ?_)))))
  show wpAny _ _ (newExc (.type "StopIteration") [] >>= _) _ _ _
  refine wpAny_bind ?_
  simp only [newExc, newTuple]
  refine wpAny_bind (wpAny_newObj_type ?_ (by size_fits))
  refine wpAny_bind (m := firstArgMember _ _) (wpAny_of_eq (a := Value.none) (by first | rfl | (simp only [firstArgMember]; rfl)) ?_)
  refine wpAny_newObj_type ?_ (show 6 ≤ sizeLine + 2 by decide)
  simp only [raiseNew]
  refine wpAny_bind (wpAny_handled ?_)
  rw [hA]
  exact wpAny_bind (wpAny_pure (wpAny_throw (h _ rfl)))
theorem kSN_ok {w : World} {it : Addr} {x : List Nat} {t : Tok} {i c : Nat} (hx : x[i]? = some c) : Cut.Ok (VW w) (kSN it x t i c) := by
  intro A s R _ _ hS ht hR
  obtain ⟨ho, G⟩ := (Got.start hS).up0 (f := Obj.mapFields (·.setIfInBounds 1 (rawInt (Int.ofNat i + 1)))) rfl
  refine codeAny_builtin F.entry_str_ascii_iterator_next ?_
  rw [Around.under_plainId (by decide +kernel)]
  exact sn_body ho hx (hR _ _ _ _ ⟨[], [s.toks], rfl, rfl, rfl, rfl⟩ G (Nat.succ_pos _))
noncomputable def kSX (it : Addr) (x : List Nat) (t : Tok) : Cut := ⟨none, .builtin "str_ascii_iterator.__next__" ⟨[.ref it], []⟩, [(it, siO x t x.length)], 0, 2, 0, fun as _ => .error (.ref (hd0 as)), fun _ _ => [siX x.length], fun as _ => [exO (hd1 as), tupO []], none⟩
theorem kSX_ok {w : World} {it : Addr} {x : List Nat} {t : Tok} : Cut.Ok (VW w) (kSX it x t) := by
  intro A s R hA _ hS ht hR
  obtain ⟨ho, G⟩ := (Got.start hS).up0 (f := Obj.mapFields (·.setIfInBounds 0 .none)) rfl
  refine codeAny_builtin F.entry_str_ascii_iterator_next ?_
  rw [Around.under_plainId (by decide +kernel)]
  refine sx_body hA.handled ho fun h1 e => ?_
  rw [← e] at G
  have G3 := (G.alloc (o := tupO []) rfl).alloc (o := exO h1.objs.size) rfl
  exact hR _ _ _ _ ⟨[_, _], [], rfl, rfl, rfl, rfl⟩ (G3.perm (List.perm_append_comm (l₁ := [(_, exO _), (_, tupO [])]) (l₂ := [(it, siX x.length)]))) ht
noncomputable def chT : List Nat → List Nat → Sts
  | [], _ => []
  | c :: l, ns => ([c], hd0 ns) :: chT l ns.tail
theorem mapSeq_push (vs : List Value) (n : Nat) (v : Value) : Obj.mapSeq (fun x => x.push v) (listN vs n) = listN (vs ++ [v]) (n + 1) := by
  show (⟨_, _, .seq ((⟨vs⟩ : Array Value).push v) (if ((⟨vs⟩ : Array Value).push v).size == (⟨vs⟩ : Array Value).size then n else n + 1), _⟩ : Obj) = _
  have : ((⟨vs⟩ : Array Value).push v).size = vs.length + 1 := by simp
  have h2 : (((⟨vs⟩ : Array Value).push v).size == (⟨vs⟩ : Array Value).size) = false := by rw [this]; simp
  rw [h2, if_neg Bool.false_ne_true]
  simp [listN]
theorem ext_all {w : World} {A it : Addr} {x : List Nat} {t : Tok} {res : Value} (hx : x.length ≤ 1000) : ∀ (rest done : List Nat) (ys : Sts) (n : Nat), x = done ++ rest → ys.length = done.length →
    Spec (VW w) none 0 (.builtin "list.extend.loop" ⟨[.ref A, .ref it, res], []⟩) [(A, listN (vsO ys) n), (it, siO x t done.length)] fun r D => ∃ zs : Sts, zs.map (·.1) = rest.map (fun c => [c]) ∧ r = .ok (.ret res) ∧ ∃ R, D = [(A, listN (vsO (ys ++ zs)) (n + rest.length))] ++ R
  | [], done, ys, n, e, hy => by
    intro Ar s R hA _ hS ht hR
    rw [List.append_nil] at e
    subst e
    obtain ⟨ho, G⟩ := ((Got.start hS).perm (List.Perm.swap ..)).up0 (f := Obj.mapFields (·.setIfInBounds 0 .none)) rfl
    refine codeAny_builtin F.entry_extend_loop ?_
    rw [Around.under_plainId F.plain_extend_loop _]
    show wpAny _ _ (pyNext (.ref it) >>= _) _ _ s
    unfold pyNext
    have hT : s.TypeIs (.ref it) "str_ascii_iterator" := ⟨_, ho, rfl⟩
    refine wpAny_bind (wpAny_bind (wpAny_attempt (wpAny_callSpecial?_slot (name := Str.ofString "__next__") hT F.slot_str_ascii_iterator_next
      (wpAny_call_entry F.slot_str_ascii_iterator_next hT F.entry_str_ascii_iterator_next ?_ (F.args_str_ascii_iterator_next_1 _)))))
    refine sx_body hA.handled ho fun h1 e => ?_
    rw [← e] at G
    refine wpAny_bind (wpAny_isInstance (T := "StopIteration") (b := true) ⟨_, Heap.get?_push_size _ rfl, rfl⟩ isSubtype_stop ?_)
    refine wpAny_pure (wpAny_pure ?_)
    have G3 := (G.alloc (o := tupO []) rfl).alloc (o := exO h1.objs.size) rfl
    have pm : ([((h1.push (tupO [])).objs.size, exO h1.objs.size), (h1.objs.size, tupO []), (it, siX x.length), (A, listN (vsO ys) n)] : Dyn).Perm ([(A, listN (vsO ys) n)] ++ [((h1.push (tupO [])).objs.size, exO h1.objs.size), (h1.objs.size, tupO []), (it, siX x.length)]) := (List.perm_middle (l₁ := [_, _, _])).trans (by rw [List.append_nil]; exact .refl _)
    exact hR _ _ _ _ ⟨[], rfl, rfl, [((h1.push (tupO [])).objs.size, exO h1.objs.size), (h1.objs.size, tupO []), (it, siX x.length)], by rw [show ys ++ [] = ys from List.append_nil ys]; rfl⟩ (G3.perm pm) ht
  | c :: rest, done, ys, n, e, hy => by
    intro Ar s R hA hF hS ht hR
    obtain ⟨ho, G⟩ := ((Got.start hS).perm (List.Perm.swap ..)).up0 (f := Obj.mapFields (·.setIfInBounds 1 (rawInt (Int.ofNat done.length + 1)))) rfl
    have hx' : x[done.length]? = some c := by rw [e]; simp
    refine codeAny_builtin F.entry_extend_loop ?_
    rw [Around.under_plainId F.plain_extend_loop _]
    show wpAny _ _ (pyNext (.ref it) >>= _) _ _ s
    unfold pyNext
    have hT : s.TypeIs (.ref it) "str_ascii_iterator" := ⟨_, ho, rfl⟩
    refine wpAny_bind (wpAny_bind (wpAny_attempt (wpAny_callSpecial?_slot (name := Str.ofString "__next__") hT F.slot_str_ascii_iterator_next
      (wpAny_call_entry F.slot_str_ascii_iterator_next hT F.entry_str_ascii_iterator_next ?_ (F.args_str_ascii_iterator_next_1 _)))))
    refine sn_body ho hx' ?_
    refine ⟨_, rfl, wpAny_pure ?_⟩
    show wpAny _ _ (Builtin.List.listUpdate (.ref A) (fun z => z.push (sv [c] s.toks)) >>= _) _ _ _
    obtain ⟨hl, G2⟩ := (G.perm (List.Perm.swap ..)).up0 (f := Obj.mapSeq fun z => z.push (sv [c] s.toks)) rfl
    have hz : (⟨vsO ys⟩ : Array Value).size ≤ 1000 := by
      show (vsO ys).length ≤ 1000
      have : ∀ l : Sts, (vsO l).length = l.length := fun l => by
        induction l with
        | nil => rfl
        | cons _ l ih => exact congrArg (· + 1) ih
      rw [this, hy]
      have : x.length = done.length + (rest.length + 1) := by rw [e]; simp
      omega
    refine wpAny_bind (wpAny_updateSeq hl rfl ?_ (hz := Nat.le_trans hz (by decide)) (_hz' := by rw [Array.size_push]; exact Nat.le_trans (Nat.succ_le_succ hz) (by decide)))
    rw [mapSeq_push] at G2
    have hq : (Code.builtin "list.extend.loop" ⟨[.ref A, .ref it, res], []⟩).quiet = true := plainId_quiet F.plain_extend_loop _
    refine wpAny_pure ⟨hq, ?_⟩
    have e2 : x = (done ++ [c]) ++ rest := by rw [e]; simp
    have eV : vsO ys ++ [sv [c] s.toks] = vsO (ys ++ [([c], s.toks)]) := by
      have : ∀ a b : Sts, vsO (a ++ b) = vsO a ++ vsO b := fun a b => by
        induction a with
        | nil => rfl
        | cons p a ih => exact congrArg _ ih
      rw [this]
      rfl
    have ih := ext_all (w := w) (A := A) (it := it) (t := t) (res := res) hx rest (done ++ [c]) (ys ++ [([c], s.toks)]) (n + 1) e2 (by simp [hy])
    rw [← eV, List.length_append] at ih
    refine ih Ar _ R hA hF (G2.shows (R := []) (by rw [List.append_nil]; exact .refl _)) (Nat.succ_pos _) fun r D h' tk' hp C ht' => ?_
    obtain ⟨zs, hz2, rfl, R', rfl⟩ := hp
    have C2 := (G2.cut (R := []) (by rw [List.append_nil]; exact .refl _) C).app0
    refine hR _ _ h' tk' ⟨([c], s.toks) :: zs, by rw [List.map_cons, List.map_cons, hz2], rfl, R', ?_⟩ (C2.memM fun a ha => ?_) ht'
    · rw [List.append_assoc, show n + 1 + rest.length = n + (c :: rest).length by simp; omega]
      rfl
    · exact ha
end Mine
end
section
open PySem PySem.W PySem.W.X PyProof.Rows PySem.Builtin PySem.Builtin.Str
set_option Elab.async false
set_option maxRecDepth 100000
set_option linter.unusedVariables false
namespace Mine
noncomputable def riO (k l : Nat) : Obj := itA "range_iterator" [.int (.ofNat k) 0, .int (.ofNat l) 0, .int 1 0]
noncomputable def kRN (it : Addr) (k l : Nat) : Cut := ⟨none, .builtin "range_iterator.__next__" ⟨[.ref it], []⟩, [(it, riO k (l + 1))], 0, 0, 1, fun _ ts => .ok (.ret (.int (.ofNat k) (hd0 ts))), fun _ _ => [riO (k + 1) l], fun _ _ => [], none⟩
theorem kRN_ok {w : World} {it : Addr} {k l : Nat} : Cut.Ok (VW w) (kRN it k l) := by
  intro A s R _ _ hS ht hR
  have ho : s.heap.get? it = some (riO k (l + 1)) := hS.has _ (.head _)
  obtain ⟨_, G1⟩ := (Got.start hS).up0 (f := Obj.mapFields (·.setIfInBounds 0 (rawInt (((k : Nat) : Int) + 1)))) rfl
  obtain ⟨_, G2⟩ := G1.up0 (f := Obj.mapFields (·.setIfInBounds 1 (rawInt ((((l + 1 : Nat)) : Int) - 1)))) rfl
  have e : Obj.mapFields (·.setIfInBounds 1 (rawInt ((((l + 1 : Nat)) : Int) - 1))) (Obj.mapFields (·.setIfInBounds 0 (rawInt (((k : Nat) : Int) + 1))) (riO k (l + 1))) = riO (k + 1) l := by
    show (⟨_, _, .fields ⟨[rawInt (((k : Nat) : Int) + 1), rawInt ((((l + 1 : Nat)) : Int) - 1), .int 1 0]⟩, _⟩ : Obj) = _
    have e1 : (((l + 1 : Nat)) : Int) - 1 = (l : Int) := by omega
    rw [e1]
    rfl
  rw [e] at G2
  refine codeAny_builtin F.entry_range_iterator_next ?_
  rw [Around.under_plainId (by decide +kernel)]
  refine AutoRange.range_iterator___next___range_iterator_1 it ((k : Nat) : Int) ((l + 1 : Nat) : Int) 1 (by omega) pw w A R s ⟨ho, ?_⟩
  exact hR _ _ _ _ ⟨[], [s.toks], rfl, rfl, rfl, rfl⟩ G2 (Nat.succ_pos _)
theorem ia_ok {w : World} {a b c : Int} {t u : Tok} (h : a + b = c) : Cut.Ok (VW w) (kI "int.__add__" [.int a t, .int b u] c) := by
  subst h
  exact kI_ok (by decide +kernel) F.entry_int_add (gives_int_add a b t u)
end Mine
end
section
open PySem PySem.W PySem.W.X PyProof.Rows PySem.Builtin PySem.Builtin.Str
set_option Elab.async false
set_option maxRecDepth 100000
set_option linter.unusedVariables false
namespace Mine
section
variable {w : World} {A : Around} {E : Value → Shared → Prop} {s : Shared} {it q : Addr} {vs : List Value} {n : Nat}
theorem li_item {i : Nat} {v : Value} {Q : Option Value → Shared → Prop} (ho : s.heap.get? it = some (itO "list_iterator" q i)) (hl : s.heap.get? q = some (listN vs n)) (hv : vs[i]? = some v)
    (h : Q (some v) ⟨s.heap.update it (Obj.mapFields (·.setIfInBounds 1 (rawInt (Int.ofNat i + 1)))), s.gens, s.drawn, s.toks, s.os⟩) : wpAny (model pw w) A (pyNext (.ref it)) Q E s := by
  have hT : s.TypeIs (.ref it) "list_iterator" := ⟨_, ho, rfl⟩
  unfold pyNext
  refine wpAny_bind (wpAny_attempt (wpAny_callSpecial?_slot (name := Str.ofString "__next__") hT slot_listiter_next
    (wpAny_call_entry slot_listiter_next hT entry_listiter_next ?_ (args_listiter_next _))))
  show wpAny _ _ (field (.ref it) 0 >>= _) _ _ s
  refine wpAny_bind (wpAny_field ho rfl (x := .ref q) rfl ?_)
  show wpAny _ _ (if (Value.ref q == Value.none) = true then _ else _) _ _ s
  rw [if_neg (show ¬ ((Value.ref q == Value.none) = true) from Bool.false_ne_true)]
  show wpAny _ _ (field (.ref it) 1 >>= _) _ _ s
  refine wpAny_bind (wpAny_field ho rfl (x := .int (.ofNat i) 0) rfl ?_)
  show wpAny _ _ (seqItems? (.ref q) >>= _) _ _ s
  refine wpAny_bind (wpAny_seqItems hl rfl ?_)
  simp only [get_list hv]
  exact wpAny_bind (wpAny_setField ho rfl (show 1 < 2 by decide) (wpAny_pure ⟨_, rfl, wpAny_pure h⟩))
theorem li_end {Q : Option Value → Shared → Prop} (hA : A.handled = none) (ho : s.heap.get? it = some (itO "list_iterator" q vs.length)) (hl : s.heap.get? q = some (listN vs n))
    (h : ∀ h1, h1 = s.heap.update it (Obj.mapFields (·.setIfInBounds 0 .none)) → Q none ⟨(h1.push (tupO [])).push (exO h1.objs.size), s.gens, s.drawn, s.toks, s.os⟩) : wpAny (model pw w) A (pyNext (.ref it)) Q E s := by
  have hT : s.TypeIs (.ref it) "list_iterator" := ⟨_, ho, rfl⟩
  unfold pyNext
  refine wpAny_bind (wpAny_attempt (wpAny_callSpecial?_slot (name := Str.ofString "__next__") hT slot_listiter_next
    (wpAny_call_entry slot_listiter_next hT entry_listiter_next ?_ (args_listiter_next _))))
  show wpAny _ _ (field (.ref it) 0 >>= _) _ _ s
  refine wpAny_bind (wpAny_field ho rfl (x := .ref q) rfl ?_)
  show wpAny _ _ (if (Value.ref q == Value.none) = true then _ else _) _ _ s
  rw [if_neg (show ¬ ((Value.ref q == Value.none) = true) from Bool.false_ne_true)]
  show wpAny _ _ (field (.ref it) 1 >>= _) _ _ s
  refine wpAny_bind (wpAny_field ho rfl (x := .int (.ofNat vs.length) 0) rfl ?_)
  show wpAny _ _ (seqItems? (.ref q) >>= _) _ _ s
  refine wpAny_bind (wpAny_seqItems hl rfl ?_)
  simp only [get_none]
  refine wpAny_bind (wpAny_rule (wpAny_bind (wpAny_setField ho rfl (show 0 < 2 by decide) ?_)))
  show wpAny _ _ (newExc (.type "StopIteration") [] >>= _) _ _ _
  refine wpAny_bind ?_
  simp only [newExc, newTuple]
  refine wpAny_bind (wpAny_newObj_type ?_ (by size_fits))
  refine wpAny_bind (m := firstArgMember _ _) (wpAny_of_eq (a := Value.none) (by first | rfl | (simp only [firstArgMember]; rfl)) ?_)
  refine wpAny_newObj_type ?_ (show 6 ≤ sizeLine + 2 by decide)
  simp only [raiseNew]
  refine wpAny_bind (wpAny_handled ?_)
  rw [show A.in1.handled = none from hA]
  refine wpAny_bind (wpAny_pure (wpAny_throw ?_))
  refine wpAny_bind (wpAny_isInstance (T := "StopIteration") (b := true) ⟨_, Heap.get?_push_size _ rfl, rfl⟩ isSubtype_stop ?_)
  exact wpAny_pure (h _ rfl)
end
noncomputable abbrev Ints := List (Int × Tok)
noncomputable def iV : Ints → List Value
  | [] => []
  | p :: l => .int p.1 p.2 :: iV l
noncomputable def iSum : Ints → Int
  | [] => 0
  | p :: l => p.1 + iSum l
theorem iV_get : ∀ (d : Ints) (p : Int × Tok) (r : Ints), (iV (d ++ p :: r))[d.length]? = some (.int p.1 p.2)
  | [], _, _ => rfl
  | _ :: d, p, r => iV_get d p r
theorem iV_len : ∀ l : Ints, (iV l).length = l.length
  | [] => rfl
  | _ :: l => congrArg (· + 1) (iV_len l)
theorem mapSeq_one (a b : Value) (c : Nat) : Obj.mapSeq (fun _ => #[a]) (listN [b] c) = listN [a] c := rfl
theorem sum_all {w : World} {I S q : Addr} {n : Nat} : ∀ (rest done : Ints) (tot : Int) (tA : Tok) (c : Nat) (st : Int), (st = 0 ∨ st = 2) →
    Spec (VW w) none 0 (.builtin "sum.loop" ⟨[.ref I, .ref S, rawInt st, rawInt 0], []⟩) [(I, itO "list_iterator" q done.length), (S, listN [.int tot tA] c), (q, listN (iV (done ++ rest)) n)]
      fun r D => ∃ t, r = .ok (.ret (.int (tot + iSum rest) t)) ∧ ∃ R, D = [(q, listN (iV (done ++ rest)) n)] ++ R
  | [], done, tot, tA, c, st, hst => by
    intro Ar s R hA _ hS ht hR
    rw [List.append_nil] at *
    have hq : s.heap.get? q = some (listN (iV done) n) := hS.has _ (.tail _ (.tail _ (.head _)))
    have hSo : s.heap.get? S = some (listN [.int tot tA] c) := hS.has _ (.tail _ (.head _))
    obtain ⟨ho, G⟩ := (Got.start hS).up0 (f := Obj.mapFields (·.setIfInBounds 0 .none)) rfl
    refine codeAny_builtin F.entry_sum_loop ?_
    rw [Around.under_plainId F.plain_sum_loop _]
    show wpAny _ Ar.in1 (seqItems? (.ref S) >>= _) _ _ s
    refine wpAny_bind (wpAny_seqItems hSo rfl ?_)
    show wpAny _ Ar.in1 (tryCatch (pyNext (.ref I)) _ >>= _) _ _ s
    rw [← iV_len done] at ho
    refine wpAny_bind (wpAny_tryCatch (li_end hA.handled ho hq fun h1 e => ?_))
    rw [← e] at G
    have G3 := (G.alloc (o := tupO []) rfl).alloc (o := exO h1.objs.size) rfl
    refine wpAny_pure (hR _ [(q, listN (iV done) n), ((h1.push (tupO [])).objs.size, exO h1.objs.size), (h1.objs.size, tupO []), (I, itE "list_iterator" done.length), (S, listN [.int tot tA] c)] _ _ ⟨tA, ?_, _, rfl⟩ (G3.perm (List.perm_append_comm (l₁ := [_, _, _, _]) (l₂ := [_]))) ht)
    rw [show tot + iSum [] = tot from Int.add_zero tot]
    rfl
  | p :: rest, done, tot, tA, c, st, hst => by
    intro Ar s R hA hF hS ht hR
    have hq : s.heap.get? q = some (listN (iV (done ++ p :: rest)) n) := hS.has _ (.tail _ (.tail _ (.head _)))
    have hSo : s.heap.get? S = some (listN [.int tot tA] c) := hS.has _ (.tail _ (.head _))
    obtain ⟨ho, G⟩ := (Got.start hS).up0 (f := Obj.mapFields (·.setIfInBounds 1 (rawInt (Int.ofNat done.length + 1)))) rfl
    obtain ⟨hS1, G1⟩ := (G.perm (List.Perm.swap ..)).up0 (f := Obj.mapSeq fun _ => #[.int (tot + p.1) s.toks]) rfl
    obtain ⟨_, G2⟩ := G1.up0 (f := Obj.mapSeq fun _ => #[.int (tot + p.1) s.toks]) rfl
    rw [mapSeq_one] at G1
    rw [mapSeq_one, mapSeq_one] at G2
    refine codeAny_builtin F.entry_sum_loop ?_
    rw [Around.under_plainId F.plain_sum_loop _]
    show wpAny _ Ar.in1 (seqItems? (.ref S) >>= _) _ _ s
    refine wpAny_bind (wpAny_seqItems hSo rfl ?_)
    show wpAny _ Ar.in1 (tryCatch (pyNext (.ref I)) _ >>= _) _ _ s
    refine wpAny_bind (wpAny_tryCatch (li_item ho hq (iV_get done p rest) ?_))
    have eA : done ++ [p] ++ rest = done ++ p :: rest := by simp
    have eL : (done ++ [p]).length = done.length + 1 := by simp
    have more : ∀ (st' : Int) h2, (st' = 0 ∨ st' = 2) → Got (VW w) (([(I, itO "list_iterator" q done.length), (S, listN [.int tot tA] c), (q, listN (iV (done ++ p :: rest)) n)] : Dyn).map (·.1)) s.heap [(S, listN [.int (tot + p.1) s.toks] c), (I, Obj.mapFields (·.setIfInBounds 1 (rawInt (Int.ofNat done.length + 1))) (itO "list_iterator" q done.length)), (q, listN (iV (done ++ p :: rest)) n)] h2 →
        codeAny (model (VW w).prog (VW w).w) Ar (.builtin "sum.loop" ⟨[.ref I, .ref S, rawInt st', rawInt 0], []⟩) R ⟨h2, s.gens, s.drawn, s.toks + 1, s.os⟩ := by
      intro st' h2 hst' C
      have ih := sum_all (w := w) (I := I) (S := S) (q := q) (n := n) rest (done ++ [p]) (tot + p.1) s.toks c st' hst'
      rw [eA, eL] at ih
      have C1 := C.perm (List.Perm.swap ..)
      refine ih Ar _ R hA hF (C1.shows (R := []) (by rw [List.append_nil]; exact .refl _)) (Nat.succ_pos _) fun r L h' tk' hp C' ht' => ?_
      obtain ⟨t, rfl, R', rfl⟩ := hp
      have C2 := (C1.cut (R := []) (by rw [List.append_nil]; exact .refl _) C').app0
      refine hR _ _ h' tk' ⟨t, ?_, R', rfl⟩ C2 ht'
      show _ = Except.ok (Flow.ret (Value.int (tot + (p.1 + iSum rest)) t))
      rw [Int.add_assoc]
    rcases hst with rfl | rfl
    · show wpAny _ Ar.in1 (if (_ : Bool) = true then (mkInt (tot + p.1) >>= _) else _) _ _ _
      split
      · refine wpAny_bind (wpAny_mkInt ?_)
        show wpAny _ Ar.in1 (updateSeq S (fun _ => #[.int (tot + p.1) s.toks]) >>= _) _ _ _
        exact wpAny_bind (wpAny_updateSeq hS1 rfl (wpAny_pure ⟨plainId_quiet F.plain_sum_loop _, more 0 _ (.inl rfl) G1⟩))
      · refine wpAny_bind (wpAny_rule ?_)
        refine wpAny_bind (wpAny_attempt (wpAny_holding (wpAny_add_int ?_)))
        show wpAny _ Ar.in1 (updateSeq S (fun _ => #[.int (tot + p.1) s.toks]) >>= _) _ _ _
        refine wpAny_bind (wpAny_updateSeq hS1 rfl ?_)
        have hS₂ := Heap.get?_update_self (Obj.mapSeq fun _ => #[Value.int (tot + p.1) s.toks]) hS1 rfl
        refine wpAny_bind (wpAny_letGo ?_)
        exact wpAny_bind (wpAny_updateSeq hS₂ rfl (wpAny_pure ⟨plainId_quiet F.plain_sum_loop _, more 2 _ (.inr rfl) G2⟩))
    · show wpAny _ Ar.in1 ((holding [Value.int p.1 p.2] (binaryOp .Add (.int tot tA) (.int p.1 p.2))).attempt >>= _) _ _ _
      refine wpAny_bind (wpAny_attempt (wpAny_holding (wpAny_add_int ?_)))
      show wpAny _ Ar.in1 (updateSeq S (fun _ => #[.int (tot + p.1) s.toks]) >>= _) _ _ _
      refine wpAny_bind (wpAny_updateSeq hS1 rfl ?_)
      have hS₂ := Heap.get?_update_self (Obj.mapSeq fun _ => #[Value.int (tot + p.1) s.toks]) hS1 rfl
      refine wpAny_bind (wpAny_letGo ?_)
      exact wpAny_bind (wpAny_updateSeq hS₂ rfl (wpAny_pure ⟨plainId_quiet F.plain_sum_loop _, more 2 _ (.inr rfl) G2⟩))
noncomputable def kSum (I S q : Addr) (l : Ints) (n : Nat) (t : Tok) : Cut := ⟨none, .builtin "sum.loop" ⟨[.ref I, .ref S, .int 0 0, .int 0 0], []⟩, [(q, listN (iV l) n), (I, itO "list_iterator" q 0), (S, listN [.int 0 t] 0)], 0, 0, 1, fun _ ts => .ok (.ret (.int (iSum l) (hd0 ts))), fun _ _ => [listN (iV l) n], fun _ _ => [], none⟩
theorem kSum_ok {w : World} {I S q : Addr} {l : Ints} {n : Nat} {t : Tok} : Cut.Ok (VW w) (kSum I S q l n t) := by
  have h := (sum_all (w := w) (I := I) (S := S) (q := q) (n := n) l [] 0 t 0 0 (.inl rfl)).drop (Q := fun r D => ∃ t, r = .ok (.ret (.int (iSum l) t)) ∧ D = [(q, listN (iV l) n)]) fun r D h => by
    obtain ⟨t, rfl, R, rfl⟩ := h
    exact ⟨_, R, .refl _, t, by rw [Int.zero_add], rfl⟩
  refine (h.ord (List.perm_append_comm (l₁ := [_]) (l₂ := [_, _]))).mono (Nat.le_refl _) fun r D hD => ?_
  obtain ⟨t, rfl, rfl⟩ := hD
  exact ⟨[], [t], rfl, rfl, rfl, rfl⟩
end Mine
end
section
open PySem PySem.W PySem.W.X PyProof.Rows
set_option Elab.async false
set_option maxRecDepth 100000
namespace Mine
inductive Stp where
  | L (c : Nat)
  | U
  | D
noncomputable def stl : Stp → List Nat
  | .L c => [c]
  | .U => [46, 46]
  | .D => [46]
noncomputable def wordS : List Stp → List Nat
  | [] => []
  | s :: l => 47 :: (stl s ++ wordS l)
noncomputable def rowS : List Stp → List Nat → List Nat
  | [], acc => acc
  | .L c :: l, acc => rowS l (acc ++ [c])
  | .U :: l, acc => rowS l acc.dropLast
  | .D :: l, acc => rowS l acc
noncomputable def wordL : List Nat → List Nat
  | [] => []
  | c :: l => 47 :: c :: wordL l
noncomputable def npRes (l : List Nat) : List Nat := match l with
  | [] => [47]
  | c :: l => wordL (c :: l)
noncomputable def svs (τ : Nat → Tok) : Nat → List Stp → List Value
  | _, [] => []
  | i, s :: l => sv (stl s) (τ i) :: svs τ (i + 1) l
noncomputable def npL : List Stp → Nat → List (Nat × Nat) → List (Of Cut)
  | [], _, _ => []
  | .L c :: r, i, acc => (fun _ τ => kV "str.__eq__" [sv [c] (τ i), sv [46] (τ 7)] (.bool false)) :: (fun _ τ => kV "str.__ne__" [sv [c] (τ i), sv [46, 46] (τ 9)] (.bool true)) :: npL r (i + 1) (acc ++ [(c, i)])
  | .D :: r, i, acc => npL r (i + 1) acc
  | .U :: r, i, acc => match acc.getLast? with
    | none => npL r (i + 1) []
    | some p => (fun _ τ => kV "str.__eq__" [sv [p.1] (τ p.2), sv [46, 46] (τ 9)] (.bool false)) :: npL r (i + 1) acc.dropLast
noncomputable def npK (c : Nat) (l : List Stp) : List (Of Cut) := (fun _ τ => kV "str.__ne__" [sv [c] (τ 26), sv [47] (τ 18)] (.bool true)) :: (fun _ τ => kSpl 47 (wordS (.L c :: l)).tail (τ 28) (τ 5) ((.L c :: l).map stl) 0) :: npL (.L c :: l) 32 []
noncomputable def npZ (c : Nat) (l : List Stp) (e : Nat) : Of Fini := fun _ τ => ⟨.inl (.ok (.ret (sv (npRes (rowS (.L c :: l) [])) (τ e)))), []⟩
noncomputable def kNp (l : List Stp) (t : Tok) : Cut := ⟨none, .call (.ref 860) ⟨[sv (wordS l) t], []⟩, [], 10, 0, 1, fun _ ts => .ok (.ret (sv (npRes (rowS l [])) (hd0 ts))), fun _ _ => [], fun _ _ => [], none⟩
end Mine
end
section
open PySem PySem.W PySem.W.X PyProof.Rows
set_option Elab.async false
set_option maxRecDepth 100000
namespace Mine
noncomputable def stV : List (Stp × Tok) → List Value
  | [] => []
  | p :: l => sv (stl p.1) p.2 :: stV l
noncomputable def rowT : List (Stp × Tok) → List (Nat × Tok) → List (Nat × Tok)
  | [], acc => acc
  | (.L c, t) :: l, acc => rowT l (acc ++ [(c, t)])
  | (.U, _) :: l, acc => rowT l acc.dropLast
  | (.D, _) :: l, acc => rowT l acc
noncomputable def rwV : List (Nat × Tok) → List Value
  | [] => []
  | p :: l => sv [p.1] p.2 :: rwV l
noncomputable def lrL : List (Stp × Tok) → Nat → List (Of Cut)
  | [], _ => []
  | (.L c, t) :: r, j => (fun _ τ => kV "str.__eq__" [sv [c] t, sv [46, 46] (τ j)] (.bool false)) :: (fun _ τ => kV "str.__ne__" [sv [c] t, sv [46] (τ (j + 1))] (.bool true)) :: lrL r (j + 4)
  | (.D, _) :: r, j => lrL r (j + 3)
  | (.U, _) :: r, j => lrL r (j + 5)
noncomputable def lrI : List (Stp × Tok) → Nat → Nat
  | [], i => i
  | (.D, _) :: r, i => lrI r i
  | _ :: r, i => lrI r (i + 2)
noncomputable def lrZ (q : Addr) (n : Nat) (l : List (Stp × Tok)) : Of Fini := fun ρ _ => ⟨.inl (.ok (.ret (.ref (ρ (lrI l 2))))), [(q, listN (stV l) n), (ρ (lrI l 2), listN (rwV (rowT l [])) 0)]⟩
noncomputable def kLr (q : Addr) (n : Nat) (l : List (Stp × Tok)) : Cut := ⟨none, .call (.ref 926) ⟨[.ref q], []⟩, [(q, listN (stV l) n)], 8, 1, 0, fun as _ => .ok (.ret (.ref (hd0 as))), fun _ _ => [listN (stV l) n], fun _ _ => [listN (rwV (rowT l [])) 0], none⟩
end Mine
end
section
open PySem PySem.W PySem.W.X PyProof.Rows
set_option Elab.async false
set_option maxRecDepth 100000
namespace Mine
noncomputable def tabA : List (Nat × List Nat) := [(60, [108, 116, 59]), (62, [103, 116, 59]), (34, [113, 117, 111, 116, 59]), (13, [35, 49, 51, 59]), (10, [35, 49, 48, 59]), (9, [35, 48, 57, 59])]
noncomputable def tabC : List (Nat × List Nat) := [(60, [108, 116, 59]), (62, [103, 116, 59])]
noncomputable def tabD : List (Nat × List Nat) := [(60, [108, 116, 59]), (34, [113, 117, 111, 116, 59]), (13, [35, 120, 68, 59]), (10, [35, 120, 65, 59]), (9, [35, 120, 57, 59])]
noncomputable def tabE : List (Nat × List Nat) := [(60, [108, 116, 59]), (62, [103, 116, 59]), (13, [35, 120, 68, 59])]
noncomputable def tabH : List (Nat × List Nat) := [(62, [103, 116, 59]), (34, [113, 117, 111, 116, 59])]
noncomputable def mkDL (T : Nat → Tok) : Nat → List (Nat × List Nat) → DL
  | _, [] => []
  | i, p :: l => ([p.1], T i, sv p.2 (T (i + 1))) :: mkDL T (i + 2) l
noncomputable def tlD (T : Nat → Tok) (xa xc xd xe xh : Addr) : DL := [([97], T 2, .ref xa), ([99], T 21, .ref xc), ([100], T 28, .ref xd), ([101], T 44, .ref xe), ([104], T 54, .ref xh)]
noncomputable def shS (P : Params) : Stmt := stAt (bodyOf (o909 P)) 2
noncomputable def shEnv (P : Params) (L : Addr) : Env := (entOf (o909 P) 909 L).env
noncomputable def shC (P : Params) (L it : Addr) : Code := forC (shS P) (.ref it) (shEnv P L)
noncomputable def shF (P : Params) (E : Nat → Tok) (x : List Nat) (tx : Tok) (q td : Addr) (y : List Nat) (ty : Tok) (h : List DictEntry) : Obj :=
  ⟨.type "frame", none, .dict ⟨en P ⟨⟨[115, 105, 103, 110]⟩⟩ (E 0) (sv x tx) :: en P ⟨⟨[114, 111, 119]⟩⟩ (E 1) (.ref q) :: en P ⟨⟨[116, 111, 108, 100]⟩⟩ (E 2) (.ref td) :: en P ⟨⟨[115, 104, 97, 112, 101]⟩⟩ (E 3) (sv y ty) :: h⟩ (4 + h.length), ⟨[]⟩⟩
noncomputable def shH (P : Params) (k : Tok) (v : Value) : List DictEntry := [en P ⟨⟨[104, 97, 110, 100]⟩⟩ k v]
section
variable (P : Params) (E : Nat → Tok) (L it q td xi : Addr) (x : List Nat) (tx : Tok) (vs : List Value) (n : Nat) (lo li : DL) (no ni : Nat)
noncomputable def shB (fr : Obj) (i : Nat) : Dyn := [(L, fr), (q, sqO "list" vs n), (it, itO "list_iterator" q i)]
noncomputable def shD (fr : Obj) (i : Nat) : Dyn := [(L, fr), (q, sqO "list" vs n), (it, itO "list_iterator" q i), (td, dlO P lo no), (xi, dlO P li ni)]
noncomputable def kGI (x : List Nat) (t u : Tok) (c : Nat) : Cut := kS "str.__getitem__" [sv x t, .int 0 u] ⟨⟨[c]⟩⟩
noncomputable def sqK (a i : Nat) (th : Tok) : List (Of Cut) := [fun _ _ => kIN it q i vs n (sv [113] th), fun _ τ => kV "str.__ne__" [sv [113] th, sv [113] (τ a)] (.bool false), fun _ τ => kV "str.__ne__" [sv [113] th, sv [113] (τ (a + 1))] (.bool false)]
noncomputable def sqZ (k : Nat → (Nat → Tok) → Tok) (a i : Nat) (th : Tok) (y : List Nat) (ty : Tok) : Of Fini := fun _ τ => ⟨.inr (shC P L it), shB L it q vs n (shF P E x tx q td y ty (shH P (k a τ) (sv [113] th))) (i + 1)⟩
noncomputable def saK (a i d : Nat) (th : Tok) (v : Nat) (u : List Nat) (ty : Tok) : List (Of Cut) := [fun _ _ => kIN it q i vs n (sv [d] th), fun _ τ => kV "str.__ne__" [sv [d] th, sv [113] (τ a)] (.bool true), fun _ τ => kGI (38 :: v :: u) ty (τ (a + 1)) 38,
  fun _ τ => kV "str.__eq__" [sv [38] (τ (a + 2)), sv [38] (τ (a + 3))] (.bool true), fun ρ τ => kSl (38 :: v :: u) ty (ρ 0) (some (1, τ (a + 5))) none (v :: u), fun _ τ => kS "str.__add__" [sv [38, 97, 109, 112, 59] (τ (a + 4)), sv (v :: u) (τ (a + 6))] ⟨⟨[38, 97, 109, 112, 59] ++ v :: u⟩⟩]
noncomputable def saZ (k : Nat → (Nat → Tok) → Tok) (a i d : Nat) (th : Tok) (v : Nat) (u : List Nat) : Of Fini := fun _ τ => ⟨.inr (shC P L it), shB L it q vs n (shF P E x tx q td ([38, 97, 109, 112, 59] ++ v :: u) (τ (a + 7)) (shH P (k a τ) (sv [d] th))) (i + 1)⟩
noncomputable def sbK (a i d : Nat) (th : Tok) (ty : Tok) : List (Of Cut) := [fun _ _ => kIN it q i vs n (sv [d] th), fun _ τ => kV "str.__ne__" [sv [d] th, sv [113] (τ a)] (.bool true), fun _ τ => kGI [38] ty (τ (a + 1)) 38,
  fun _ τ => kV "str.__eq__" [sv [38] (τ (a + 2)), sv [38] (τ (a + 3))] (.bool true), fun ρ τ => kSl [38] ty (ρ 0) (some (1, τ (a + 5))) none []]
noncomputable def sbZ (k : Nat → (Nat → Tok) → Tok) (a i d : Nat) (th : Tok) : Of Fini := fun _ τ => ⟨.inr (shC P L it), shB L it q vs n (shF P E x tx q td [38, 97, 109, 112, 59] (τ (a + 4)) (shH P (k a τ) (sv [d] th))) (i + 1)⟩
noncomputable def scK (a i d : Nat) (th : Tok) (c : Nat) (ty : Tok) (v : List Nat) (tv : Tok) : List (Of Cut) := [fun _ _ => kIN it q i vs n (sv [d] th), fun _ τ => kV "str.__ne__" [sv [d] th, sv [113] (τ a)] (.bool true), fun _ τ => kGI [c] ty (τ (a + 1)) c,
  fun _ τ => kV "str.__eq__" [sv [c] (τ (a + 2)), sv [38] (τ (a + 3))] (.bool false), fun _ τ => kV "str.__ne__" [sv [d] th, sv [113] (τ (a + 4))] (.bool true),
  fun _ _ => kDG P td lo no [d] th (.ref xi), fun _ _ => kDC P xi li ni [c] ty true, fun _ _ => kDG P td lo no [d] th (.ref xi), fun _ _ => kDG P xi li ni [c] ty (sv v tv), fun _ τ => kS "str.__add__" [sv [38] (τ (a + 5)), sv v tv] ⟨⟨38 :: v⟩⟩]
noncomputable def scZ (k : Nat → (Nat → Tok) → Tok) (a i d : Nat) (th : Tok) (v : List Nat) : Of Fini := fun _ τ => ⟨.inr (shC P L it), shD P L it q td xi vs n lo li no ni (shF P E x tx q td (38 :: v) (τ (a + 6)) (shH P (k a τ) (sv [d] th))) (i + 1)⟩
noncomputable def sdK (a i d : Nat) (th : Tok) (c : Nat) (ty : Tok) : List (Of Cut) := [fun _ _ => kIN it q i vs n (sv [d] th), fun _ τ => kV "str.__ne__" [sv [d] th, sv [113] (τ a)] (.bool true), fun _ τ => kGI [c] ty (τ (a + 1)) c,
  fun _ τ => kV "str.__eq__" [sv [c] (τ (a + 2)), sv [38] (τ (a + 3))] (.bool false), fun _ τ => kV "str.__ne__" [sv [d] th, sv [113] (τ (a + 4))] (.bool true), fun _ _ => kDG P td lo no [d] th (.ref xi), fun _ _ => kDC P xi li ni [c] ty false]
noncomputable def sdZ (k : Nat → (Nat → Tok) → Tok) (a i d : Nat) (th : Tok) (c : Nat) (ty : Tok) : Of Fini := fun _ τ => ⟨.inr (shC P L it), shD P L it q td xi vs n lo li no ni (shF P E x tx q td [c] ty (shH P (k a τ) (sv [d] th))) (i + 1)⟩
noncomputable def seK : List (Of Cut) := [fun _ _ => kIE it q vs n]
noncomputable def seZ (fr : Obj) : Of Fini := fun _ _ => ⟨.inl (.ok .next), [(L, fr), (q, sqO "list" vs n)]⟩
end
noncomputable def kNew : Nat → (Nat → Tok) → Tok := fun _ τ => τ 0
noncomputable def kOld (k : Tok) : Nat → (Nat → Tok) → Tok := fun _ _ => k
noncomputable def tabOf : Nat → List (Nat × List Nat)
  | 97 => tabA
  | 99 => tabC
  | 100 => tabD
  | 101 => tabE
  | 104 => tabH
  | _ => []
noncomputable def lk : List (Nat × List Nat) → Nat → Option (List Nat)
  | [], _ => none
  | p :: l, c => if p.1 = c then some p.2 else lk l c
noncomputable def amp5 : List Nat := [38, 97, 109, 112, 59]
noncomputable def sh1 (d : Nat) (y : List Nat) : List Nat := if d = 113 then y else match y with
  | [] => []
  | c :: u => if c = 38 then amp5 ++ u else match lk (tabOf d) c with
    | some v => 38 :: v
    | none => c :: u
noncomputable def shN : List Nat → List Nat → List Nat
  | [], y => y
  | d :: r, y => shN r (sh1 d y)
section
variable (P : Params) (T : Nat → Tok) (E : Nat → Tok) (L it q td xa xc xd xe xh : Addr) (x : List Nat) (tx : Tok)
noncomputable def tlDs : Dyn := [(xa, dlO P (mkDL T 3 tabA) 6), (xc, dlO P (mkDL T 22 tabC) 2), (xd, dlO P (mkDL T 29 tabD) 5), (xe, dlO P (mkDL T 45 tabE) 3), (xh, dlO P (mkDL T 55 tabH) 2)]
noncomputable def shL (vs : List Value) (n : Nat) (fr : Obj) (i : Nat) : Dyn := shB L it q vs n fr i ++ (td, dlO P (tlD T xa xc xd xe xh) 5) :: tlDs P T xa xc xd xe xh
noncomputable def shPost (row : List (Nat × Tok)) (ts : List Tok) : Obj := match row with
  | [] => shF P E x tx q td x tx []
  | _ :: _ => shF P E x tx q td (shN (row.map (·.1)) x) (hd0 ts) (shH P (hd1 ts) (sv [hd2 ts] (hd3 ts)))
noncomputable def kShl (row : List (Nat × Tok)) (n : Nat) : Cut := ⟨none, shC P L it, shL P T L it q td xa xc xd xe xh (rwV row) n (shF P E x tx q td x tx []) 0, 6, 0, 4, fun _ _ => .ok .next,
  fun _ ts => [shPost P E q td x tx row ts, sqO "list" (rwV row) n], fun _ _ => [], none⟩
noncomputable def shE (τ : Nat → Tok) : Nat → Tok := fun k => match k with
  | 0 => τ 0
  | 1 => τ 1
  | 2 => τ 66
  | _ => τ 67
noncomputable def shK (row : List (Nat × Tok)) (n : Nat) : List (Of Cut) := [fun ρ τ => kShl P τ (shE τ) (ρ 0) (ρ 7) q (ρ 1) (ρ 2) (ρ 3) (ρ 4) (ρ 5) (ρ 6) x tx row n]
noncomputable def shZ (row : List (Nat × Tok)) (n : Nat) : Of Fini := fun _ τ => ⟨.inl (.ok (.ret (match row with | [] => sv x tx | _ => sv (shN (row.map (·.1)) x) (τ 68)))), [(q, sqO "list" (rwV row) n)]⟩
noncomputable def kSh (row : List (Nat × Tok)) (n : Nat) : Cut := ⟨none, .call (.ref 909) ⟨[sv x tx, .ref q], []⟩, [(q, sqO "list" (rwV row) n)], 8, 0, 1, fun _ ts => .ok (.ret (sv (shN (row.map (·.1)) x) (hd0 ts))), fun _ _ => [sqO "list" (rwV row) n], fun _ _ => [], none⟩
end
end Mine
end
section
open PySem PySem.W PySem.W.X PyProof.Rows
set_option Elab.async false
set_option maxRecDepth 100000
namespace Mine
noncomputable def hndS : Str := ⟨⟨[104, 97, 110, 100]⟩⟩
noncomputable def tdB (P : Params) : List Stmt := bodyOf (o914 P)
noncomputable def tdFor (P : Params) : Stmt := stAt (tdB P) 1
noncomputable def tdIf (P : Params) : Stmt := stAt (forBd (tdFor P)) 0
noncomputable def tdOut (P : Params) : Expr := asgV (stAt (ifE (tdIf P)) 0)
noncomputable def tdIn (P : Params) : Expr := lcElt (tdOut P)
noncomputable def tdEnv (P : Params) (L hc : Addr) : Env := (entC (o914 P) 914 L [(hndS, hc)]).env
noncomputable def toEnv (P : Params) (L hc C : Addr) : Env := cEnv (tdOut P) [hndS] (tdEnv P L hc) C [(hndS, hc)]
noncomputable def tiEnv (P : Params) (L hc Co C : Addr) : Env := cEnv (tdIn P) [hndS] (toEnv P L hc Co) C [(hndS, hc)]
noncomputable def tiC (P : Params) (L hc Co C it acc : Addr) : Code := .compLoop (tdIn P) 0 (.ref it) (.ref acc) (tiEnv P L hc Co C)
noncomputable def tiS (P : Params) (L hc Co C it acc : Addr) : Code := .compStart (tdIn P) 0 (.ref it) (.ref acc) (tiEnv P L hc Co C)
noncomputable def shpE (P : Params) (k : Tok) (v : Value) : List DictEntry := [en P ⟨⟨[115, 104, 97, 112, 101]⟩⟩ k v]
section
variable (P : Params) (L hc Co C it acc g : Addr) (d : Nat) (th : Tok) (gs : List Value) (gn : Nat)
noncomputable def tiD (cd : Obj) (vs : List Value) (m i : Nat) : Dyn := [(acc, listN vs m), (C, cd), (hc, cellO (some (sv [d] th))), (it, itO "list_iterator" g i), (g, sqO "list" gs gn)]
noncomputable def tiK (vs : List Value) (m i : Nat) (x : List Nat) (tx : Tok) : List (Of Cut) := [fun _ _ => kIN it g i gs gn (sv x tx), fun ρ _ => kSh (ρ 0) x tx [(d, th)] 0, fun _ τ => kLP acc vs m (sv (sh1 d x) (τ 1))]
noncomputable def tiZ (k : Nat → (Nat → Tok) → Tok) (vs : List Value) (m i : Nat) (x : List Nat) (tx : Tok) : Of Fini := fun _ τ => ⟨.inr (tiC P L hc Co C it acc), tiD hc C it acc g d th gs gn (dictN (shpE P (k 0 τ) (sv x tx)) 1) (vs ++ [sv (sh1 d x) (τ 1)]) (m + 1) (i + 1)⟩
noncomputable def tiE : List (Of Cut) := [fun _ _ => kIE it g gs gn]
noncomputable def tiY (cd : Obj) (vs : List Value) (m : Nat) : Of Fini := fun _ _ => ⟨.inl (.ok .next), [(acc, listN vs m), (C, cd), (hc, cellO (some (sv [d] th)))]⟩
end
noncomputable def tiPost (P : Params) (l : Sts) (ts : List Tok) : Obj := match l with
  | [] => dictN [] 0
  | _ :: _ => dictN (shpE P (hd1 ts) (sv (unl (hd2 ts)) (hd3 ts))) 1
noncomputable def kTI (P : Params) (L hc Co C it acc g : Addr) (d : Nat) (th : Tok) (l : Sts) (gn : Nat) : Cut := ⟨none, tiS P L hc Co C it acc, tiD hc C it acc g d th (vsO l) gn (dictN [] 0) [] 0 0, 11, 0, 4, fun _ _ => .ok .next,
  fun _ ts => [listN (vsO (zipT (l.map fun p => sh1 d p.1) (unl (hd0 ts)))) l.length, tiPost P l ts, cellO (some (sv [d] th))], fun _ _ => [], none⟩
end Mine
end
section
open PySem PySem.W PySem.W.X PyProof.Rows
set_option Elab.async false
set_option maxRecDepth 100000
set_option linter.unusedVariables false
namespace Mine
noncomputable def toC (P : Params) (L hc C it acc : Addr) : Code := .compLoop (tdOut P) 0 (.ref it) (.ref acc) (toEnv P L hc C)
noncomputable def toS (P : Params) (L hc C it acc : Addr) : Code := .compStart (tdOut P) 0 (.ref it) (.ref acc) (toEnv P L hc C)
noncomputable def gapE (P : Params) (k : Tok) (v : Value) : List DictEntry := [en P ⟨⟨[103, 97, 112]⟩⟩ k v]
section
variable (P : Params) (L hc C it acc g : Addr) (d : Nat) (th : Tok) (gs : List Value) (gn : Nat)
noncomputable def toD (cd : Obj) (vs : List Value) (m i : Nat) : Dyn := [(acc, listN vs m), (C, cd), (hc, cellO (some (sv [d] th))), (it, itO "list_iterator" g i), (g, sqO "list" gs gn)]
noncomputable def toK (vs : List Value) (m i : Nat) (a : Addr) (l : Sts) (n : Nat) : List (Of Cut) := [fun _ _ => kIN it g i gs gn (.ref a), fun ρ _ => kTI P L hc C (ρ 2) (ρ 0) (ρ 1) a d th l n, fun ρ _ => kLP acc vs m (.ref (ρ 1))]
noncomputable def toZ (k : Nat → (Nat → Tok) → Tok) (vs : List Value) (m i : Nat) (a : Addr) (l : Sts) : Of Fini := fun ρ τ => ⟨.inr (toC P L hc C it acc), toD hc C it acc g d th gs gn (dictN (gapE P (k 0 τ) (.ref a)) 1) (vs ++ [.ref (ρ 1)]) (m + 1) (i + 1) ++ [(ρ 1, listN (vsO (zipT (l.map fun p => sh1 d p.1) (unl (τ 1)))) l.length)]⟩
end
noncomputable def cmap (d : Nat) (c : List (List (List Nat))) : List (List (List Nat)) := c.map fun l => l.map (sh1 d)
noncomputable def kTO (P : Params) (L hc C it acc g : Addr) (d : Nat) (th : Tok) (G : List Gap) (gn : Nat) : Cut := ⟨none, toS P L hc C it acc, toD hc C it acc g d th (gR G) gn (dictN [] 0) [] 0 0 ++ gD G, 14, 0, 3, fun _ _ => .ok .next,
  fun _ ts => [listN (gR (mkG (cmap d (ct G)) (unl (hd0 ts)))) G.length, dictN (gapE P (hd1 ts) (.ref (hd2 ts))) 1, cellO (some (sv [d] th))], fun _ _ => [], some fun _ ts => gD (mkG (cmap d (ct G)) (unl (hd0 ts)))⟩
end Mine
end
section
open PySem PySem.W PySem.W.X PyProof.Rows
set_option Elab.async false
set_option maxRecDepth 100000
set_option linter.unusedVariables false
namespace Mine
noncomputable def tqF (P : Params) : Stmt := stAt (ifB (tdIf P)) 1
noncomputable def tqC (P : Params) (L hc it : Addr) : Code := forC (tqF P) (.ref it) (tdEnv P L hc)
noncomputable def wdE (P : Params) (k : Tok) (v : Value) : List DictEntry := [en P ⟨⟨[119, 105, 100, 101, 114]⟩⟩ k v]
noncomputable def tdF (P : Params) (E : Nat → Tok) (x : List Nat) (tx : Tok) (q g : Addr) (h : List DictEntry) : Obj :=
  ⟨.type "frame", none, .dict ⟨en P ⟨⟨[115, 105, 103, 110, 115]⟩⟩ (E 0) (sv x tx) :: en P ⟨⟨[114, 111, 119]⟩⟩ (E 1) (.ref q) :: en P ⟨⟨[103, 97, 112, 115]⟩⟩ (E 2) (.ref g) :: h⟩ (3 + h.length), ⟨[]⟩⟩
section
variable (P : Params) (E : Nat → Tok) (L hc it s q g W : Addr) (x : List Nat) (tx : Tok) (gs ws : List Value) (sn : Nat) (kw : Tok)
noncomputable def tqD (h : List DictEntry) (W : Addr) (ws : List Value) (i : Nat) : Dyn := [(L, tdF P E x tx q g (wdE P kw (.ref W) ++ h)), (W, listN ws 0), (s, sqO "list" gs sn), (it, itO "list_iterator" s i)]
noncomputable def quL (t : Tok) : Obj := listN [sv [34] t] 0
noncomputable def tqK (i : Nat) (a : Addr) : List (Of Cut) := [fun _ _ => kIN it s i gs sn (.ref a), fun ρ _ => kLA W (ρ 2) ws [.ref (ρ 0), .ref (ρ 1), .ref a] 0 0]
noncomputable def tqZ (k : Nat → (Nat → Tok) → Tok) (i : Nat) (a : Addr) : Of Fini := fun ρ τ => ⟨.inr (tqC P L hc it), tqD P E L it s q g x tx gs sn kw (gapE P (k 0 τ) (.ref a)) (ρ 3) (ws ++ [.ref (ρ 0), .ref (ρ 1), .ref a]) (i + 1) ++ [(ρ 0, quL (τ 1)), (ρ 1, quL (τ 2))]⟩
noncomputable def tqE : List (Of Cut) := [fun _ _ => kIE it s gs sn]
noncomputable def tqY (h : List DictEntry) : Of Fini := fun _ _ => ⟨.inl (.ok .next), [(L, tdF P E x tx q g (wdE P kw (.ref W) ++ h)), (W, listN ws 0)]⟩
end
noncomputable def inter : List Gap → List Gap → List Gap
  | g :: G, x :: y :: N => x :: y :: g :: inter G N
  | _, _ => []
noncomputable def qus (G : List Gap) : List (List (List Nat)) := G.flatMap fun _ => [[[34]], [[34]]]
noncomputable def kTQ (P : Params) (E : Nat → Tok) (L hc it s q g W : Addr) (x : List Nat) (tx : Tok) (G : List Gap) (ws : List Value) (sn : Nat) (kw : Tok) (h : List DictEntry) : Cut :=
  ⟨none, tqC P L hc it, tqD P E L it s q g x tx (gR G) sn kw h W ws 0, 6, 1, 3, fun _ _ => .ok .next, fun as ts => [tdF P E x tx q g (wdE P kw (.ref (hd0 as)) ++ gapE P (hd1 ts) (.ref (hd2 ts)))],
  fun _ ts => [listN (ws ++ gR (inter G (mkG (qus G) (unl (hd0 ts))))) 0], some fun _ ts => gD (mkG (qus G) (unl (hd0 ts)))⟩
end Mine
end
section
open PySem PySem.W PySem.W.X PyProof.Rows
set_option Elab.async false
set_option maxRecDepth 100000
set_option linter.unusedVariables false
namespace Mine
noncomputable def tlC (P : Params) (L hc it : Addr) : Code := forC (tdFor P) (.ref it) (tdEnv P L hc)
section
variable (P : Params) (E : Nat → Tok) (L hc it q : Addr) (x : List Nat) (tx : Tok) (rs : List Value) (rn : Nat)
noncomputable def tzD (h : List DictEntry) (ov : Option Value) (g : Addr) (G : List Gap) (gn i : Nat) : Dyn := [(L, tdF P E x tx q g h), (q, sqO "list" rs rn), (hc, cellO ov), (it, itO "list_iterator" q i), (g, listN (gR G) gn)] ++ gD G
noncomputable def tlKq (hg : List DictEntry) (kw : (Nat → Tok) → Tok) (g : Addr) (p : Gap) (G : List Gap) (gn i : Nat) (th : Tok) : List (Of Cut) := [fun _ _ => kIN it q i rs rn (sv [113] th), fun _ τ => kV "str.__eq__" [sv [113] th, sv [113] (τ 0)] (.bool true),
  fun _ τ => kLG g (gR (p :: G)) gn 0 (τ 1) (.ref p.1), fun ρ τ => kLS g (gR (p :: G)) gn (ρ 2) (some (1, τ 3)) none (gR G),
  fun ρ τ => kTQ P E L hc (ρ 4) (ρ 3) q g (ρ 1) x tx G [.ref (ρ 0), .ref p.1] 0 (kw τ) hg, fun ρ τ => kLA (ρ 5) (ρ 7) ([.ref (ρ 0), .ref p.1] ++ gR (inter G (mkG (qus G) (unl (τ 4))))) [.ref (ρ 6)] 0 0]
noncomputable def tlZq (kw : (Nat → Tok) → Tok) (p : Gap) (G : List Gap) (i : Nat) (th : Tok) : Of Fini := fun ρ τ => ⟨.inr (tlC P L hc it),
  [(L, tdF P E x tx q (ρ 8) (wdE P (kw τ) (.ref (ρ 5)) ++ gapE P (τ 5) (.ref (τ 6)))), (q, sqO "list" rs rn), (hc, cellO (some (sv [113] th))), (it, itO "list_iterator" q (i + 1)), (ρ 8, listN ([.ref (ρ 0), .ref p.1] ++ gR (inter G (mkG (qus G) (unl (τ 4)))) ++ [.ref (ρ 6)]) 0), (ρ 0, listN [] 0), (ρ 6, listN [] 0)]
  ++ app (gD (p :: G)) (gD (mkG (qus G) (unl (τ 4))))⟩
noncomputable def tlKe (g : Addr) (G : List Gap) (gn i d : Nat) (th : Tok) : List (Of Cut) := [fun _ _ => kIN it q i rs rn (sv [d] th), fun _ τ => kV "str.__eq__" [sv [d] th, sv [113] (τ 0)] (.bool false), fun ρ τ => kTO P L hc (ρ 2) (ρ 0) (ρ 1) g d th G gn]
noncomputable def tlZe (h : List DictEntry) (G : List Gap) (i d : Nat) (th : Tok) : Of Fini := fun ρ τ => ⟨.inr (tlC P L hc it),
  [(L, tdF P E x tx q (ρ 1) h), (q, sqO "list" rs rn), (hc, cellO (some (sv [d] th))), (it, itO "list_iterator" q (i + 1)), (ρ 1, listN (gR (mkG (cmap d (ct G)) (unl (τ 1)))) G.length)] ++ gD (mkG (cmap d (ct G)) (unl (τ 1)))⟩
noncomputable def tlKx : List (Of Cut) := [fun _ _ => kIE it q rs rn]
noncomputable def tlZx (h : List DictEntry) (g : Addr) (G : List Gap) (gn : Nat) : Of Fini := fun _ _ => ⟨.inl (.ok .next), [(L, tdF P E x tx q g h), (q, sqO "list" rs rn), (g, listN (gR G) gn)] ++ gD G⟩
end
noncomputable def tellq (c : List (List (List Nat))) : List (List (List Nat)) := [] :: c.headD [] :: (c.tail.flatMap fun g => [[[34]], [[34]], g]) ++ [[]]
noncomputable def tell1 (d : Nat) (c : List (List (List Nat))) : List (List (List Nat)) := if d = 113 then tellq c else cmap d c
noncomputable def tellN : List Nat → List (List (List Nat)) → List (List (List Nat))
  | [], c => c
  | d :: r, c => tellN r (tell1 d c)
noncomputable def hasQ : List Nat → Bool
  | [] => false
  | d :: r => d == 113 || hasQ r
noncomputable def tlH (P : Params) (hq : Bool) (ts : List Tok) : List DictEntry := match hq with
  | false => []
  | true => wdE P (hd0 ts) (.ref (hd1 ts)) ++ gapE P (hd2 ts) (.ref (hd3 ts))
noncomputable def kTl (P : Params) (E : Nat → Tok) (L hc it q : Addr) (x : List Nat) (tx : Tok) (row : List (Nat × Tok)) (rn : Nat) (g : Addr) (G : List Gap) (gn : Nat) (hq : Bool) : Cut :=
  ⟨none, tlC P L hc it, tzD P E L hc it q x tx (rwV row) rn [] none g G gn 0, 16, 1, 6, fun _ _ => .ok .next,
  fun as ts => [tdF P E x tx q (hd0 as) (tlH P hq ts), sqO "list" (rwV row) rn], fun _ ts => [listN (gR (mkG (tellN (row.map (·.1)) (ct G)) (unl (ts.getD 4 0)))) (ts.getD 5 0)], some fun _ ts => gD (mkG (tellN (row.map (·.1)) (ct G)) (unl (ts.getD 4 0)))⟩
end Mine
end
section
open PySem PySem.W PySem.W.X PyProof.Rows
set_option Elab.async false
set_option maxRecDepth 100000
set_option linter.unusedVariables false
namespace Mine
noncomputable def kLX (A it : Addr) (x : List Nat) (t : Tok) : Cut := ⟨none, .builtin "list.extend.loop" ⟨[.ref A, .ref it, .none], []⟩, [(A, listN [] 0), (it, siO x t 0)], 0, 0, 1, fun _ _ => .ok (.ret .none),
  fun _ ts => [listN (vsO (zipT (x.map fun c => [c]) (unl (hd0 ts)))) x.length], fun _ _ => [], none⟩
noncomputable def lcK (x : List Nat) (t : Tok) : List (Of Cut) := [fun _ _ => kLN (sv x t), fun _ _ => kSI x t, fun ρ _ => kLX (ρ 0) (ρ 1) x t]
noncomputable def lcZ (x : List Nat) : Of Fini := fun ρ τ => ⟨.inl (.ok (.ret (.ref (ρ 0)))), [(ρ 0, listN (vsO (zipT (x.map fun c => [c]) (unl (τ 0)))) x.length)]⟩
noncomputable def kLC (x : List Nat) (t : Tok) : Cut := ⟨none, .call (.type "list") ⟨[sv x t], []⟩, [], 6, 1, 1, fun as _ => .ok (.ret (.ref (hd0 as))), fun _ _ => [], fun _ ts => [listN (vsO (zipT (x.map fun c => [c]) (unl (hd0 ts)))) x.length], none⟩
noncomputable def tdJ (P : Params) : Expr := argE (retE (stAt (tdB P) 2)) 0
noncomputable def tjEnv (P : Params) (L hc C : Addr) : Env := cEnv (tdJ P) [] (tdEnv P L hc) C []
noncomputable def tjC (P : Params) (L hc C it acc : Addr) : Code := .compLoop (tdJ P) 0 (.ref it) (.ref acc) (tjEnv P L hc C)
noncomputable def tjS (P : Params) (L hc C it acc : Addr) : Code := .compStart (tdJ P) 0 (.ref it) (.ref acc) (tjEnv P L hc C)
noncomputable def flat : List (List Nat) → List Nat
  | [] => []
  | x :: l => x ++ flat l
section
variable (P : Params) (L hc C it acc g : Addr) (gs : List Value) (gn : Nat)
noncomputable def tjD (cd : Obj) (vs : List Value) (m i : Nat) : Dyn := [(acc, listN vs m), (C, cd), (it, itO "list_iterator" g i), (g, sqO "list" gs gn)]
noncomputable def tjK (vs : List Value) (m i : Nat) (a : Addr) (l : Sts) (n : Nat) : List (Of Cut) := [fun _ _ => kIN it g i gs gn (.ref a), fun _ τ => kSJ [] (τ 1) a l n (flat (l.map (·.1))), fun _ τ => kLP acc vs m (sv (flat (l.map (·.1))) (τ 2))]
noncomputable def tjZ (k : Nat → (Nat → Tok) → Tok) (vs : List Value) (m i : Nat) (a : Addr) (l : Sts) : Of Fini := fun ρ τ => ⟨.inr (tjC P L hc C it acc), tjD C it acc g gs gn (dictN (gapE P (k 0 τ) (.ref a)) 1) (vs ++ [sv (flat (l.map (·.1))) (τ 2)]) (m + 1) (i + 1)⟩
noncomputable def tjY (cd : Obj) (vs : List Value) (m : Nat) : Of Fini := fun _ _ => ⟨.inl (.ok .next), [(acc, listN vs m), (C, cd)]⟩
end
noncomputable def kTJ (P : Params) (L hc C it acc g : Addr) (G : List Gap) (gn : Nat) : Cut := ⟨none, tjS P L hc C it acc, tjD C it acc g (gR G) gn (dictN [] 0) [] 0 0 ++ gD G, 11, 0, 3, fun _ _ => .ok .next,
  fun _ ts => [listN (vsO (zipT ((ct G).map flat) (unl (hd0 ts)))) G.length, dictN (gapE P (hd1 ts) (.ref (hd2 ts))) 1], fun _ _ => [], none⟩
noncomputable def tdG0 (x : List Nat) (a b : Addr) (t : Tok) : List Gap := [(a, [], 0), (b, zipT (x.map fun c => [c]) (unl t), x.length)]
noncomputable def tdG1 (x : List Nat) (row : List (Nat × Tok)) (a b : Addr) (t u : Tok) : List Gap := mkG (tellN (row.map (·.1)) (ct (tdG0 x a b t))) (unl u)
noncomputable def tdText (row : List Nat) (x : List Nat) : List Nat := joinN 39 ((tellN row [[], x.map fun c => [c]]).map flat)
noncomputable def tdE (τ : Nat → Tok) : Nat → Tok := fun k => match k with
  | 0 => τ 0
  | 1 => τ 1
  | _ => τ 3
noncomputable def tdK (P : Params) (x : List Nat) (tx : Tok) (q : Addr) (row : List (Nat × Tok)) (rn : Nat) (hq : Bool) : List (Of Cut) := [fun _ _ => kLC x tx,
  fun ρ τ => kTl P (tdE τ) (ρ 0) (ρ 1) (ρ 5) q x tx row rn (ρ 4) (tdG0 x (ρ 2) (ρ 3) (τ 2)) 0 hq,
  fun ρ τ => kTJ P (ρ 0) (ρ 1) (ρ 9) (ρ 7) (ρ 8) (ρ 6) (tdG1 x row (ρ 2) (ρ 3) (τ 2) (τ 8)) (τ 9),
  fun ρ τ => kSJ [39] (τ 10) (ρ 8) (zipT ((ct (tdG1 x row (ρ 2) (ρ 3) (τ 2) (τ 8))).map flat) (unl (τ 11))) (tdG1 x row (ρ 2) (ρ 3) (τ 2) (τ 8)).length (tdText (row.map (·.1)) x)]
noncomputable def tdZ (x : List Nat) (q : Addr) (row : List (Nat × Tok)) (rn : Nat) : Of Fini := fun _ τ => ⟨.inl (.ok (.ret (sv (tdText (row.map (·.1)) x) (τ 14)))), [(q, sqO "list" (rwV row) rn)]⟩
noncomputable def kTd (x : List Nat) (tx : Tok) (q : Addr) (row : List (Nat × Tok)) (rn : Nat) : Cut := ⟨none, .call (.ref 914) ⟨[sv x tx, .ref q], []⟩, [(q, sqO "list" (rwV row) rn)], 18, 0, 1, fun _ ts => .ok (.ret (sv (tdText (row.map (·.1)) x) (hd0 ts))),
  fun _ _ => [sqO "list" (rwV row) rn], fun _ _ => [], none⟩
end Mine
end
section
open PySem PySem.W PySem.W.X PyProof.Rows
set_option Elab.async false
set_option maxRecDepth 100000
set_option linter.unusedVariables false
namespace Mine
noncomputable def rowS_ : Str := ⟨⟨[114, 111, 119]⟩⟩
noncomputable def mkB (P : Params) : List Stmt := bodyOf (o919 P)
noncomputable def mkC_ (P : Params) : Expr := asgV (stAt (mkB P) 0)
noncomputable def mkFor (P : Params) : Stmt := stAt (mkB P) 1
noncomputable def mkEnv (P : Params) (L hc : Addr) : Env := (entC (o919 P) 919 L [(rowS_, hc)]).env
noncomputable def mtEnv (P : Params) (L hc C : Addr) : Env := cEnv (mkC_ P) [rowS_] (mkEnv P L hc) C [(rowS_, hc)]
noncomputable def mtC (P : Params) (L hc C it acc : Addr) : Code := .compLoop (mkC_ P) 0 (.ref it) (.ref acc) (mtEnv P L hc C)
noncomputable def mtS (P : Params) (L hc C it acc : Addr) : Code := .compStart (mkC_ P) 0 (.ref it) (.ref acc) (mtEnv P L hc C)
noncomputable def sgnE (P : Params) (k : Tok) (v : Value) : List DictEntry := [en P ⟨⟨[115, 105, 103, 110]⟩⟩ k v]
section
variable (P : Params) (L hc C it acc q : Addr) (x : List Nat) (tx : Tok) (row : List (Nat × Tok)) (rn : Nat)
noncomputable def mtD (cd : Obj) (vs : List Value) (m i : Nat) : Dyn := [(acc, listN vs m), (C, cd), (hc, cellO (some (.ref q))), (q, sqO "list" (rwV row) rn), (it, siO x tx i)]
noncomputable def mtK (vs : List Value) (m i c : Nat) : List (Of Cut) := [fun _ _ => kSN it x tx i c, fun _ τ => kSh q [c] (τ 0) row rn, fun _ τ => kLP acc vs m (sv (shN (row.map (·.1)) [c]) (τ 2))]
noncomputable def mtZ (k : (Nat → Tok) → Tok) (vs : List Value) (m i c : Nat) : Of Fini := fun _ τ => ⟨.inr (mtC P L hc C it acc), mtD hc C it acc q x tx row rn (dictN (sgnE P (k τ) (sv [c] (τ 0))) 1) (vs ++ [sv (shN (row.map (·.1)) [c]) (τ 2)]) (m + 1) (i + 1)⟩
noncomputable def mtE : List (Of Cut) := [fun _ _ => kSX it x tx]
noncomputable def mtY (cd : Obj) (vs : List Value) (m : Nat) : Of Fini := fun _ _ => ⟨.inl (.ok .next), [(acc, listN vs m), (C, cd), (hc, cellO (some (.ref q))), (q, sqO "list" (rwV row) rn)]⟩
end
noncomputable def mtPost (P : Params) (x : List Nat) (ts : List Tok) : Obj := match x with
  | [] => dictN [] 0
  | _ :: _ => dictN (sgnE P (hd1 ts) (sv (unl (hd2 ts)) (hd3 ts))) 1
noncomputable def kMT (P : Params) (L hc C it acc q : Addr) (x : List Nat) (tx : Tok) (row : List (Nat × Tok)) (rn : Nat) : Cut := ⟨none, mtS P L hc C it acc, mtD hc C it acc q x tx row rn (dictN [] 0) [] 0 0, 11, 0, 4, fun _ _ => .ok .next,
  fun _ ts => [listN (vsO (zipT (x.map fun c => shN (row.map (·.1)) [c]) (unl (hd0 ts)))) x.length, mtPost P x ts, cellO (some (.ref q)), sqO "list" (rwV row) rn], fun _ _ => [], none⟩
noncomputable def mkF (P : Params) (E : Nat → Tok) (x : List Nat) (tx : Tok) (acc : Addr) (h : List DictEntry) : Obj :=
  ⟨.type "frame", none, .dict ⟨en P ⟨⟨[115, 105, 103, 110, 115]⟩⟩ (E 0) (sv x tx) :: en P ⟨⟨[109, 97, 114, 107, 115]⟩⟩ (E 1) (.ref acc) :: h⟩ (2 + h.length), ⟨[]⟩⟩
noncomputable def kkE (P : Params) (k : Tok) (v : Value) : List DictEntry := [en P ⟨⟨[107]⟩⟩ k v]
noncomputable def mlC (P : Params) (L hc it : Addr) : Code := forC (mkFor P) (.ref it) (mkEnv P L hc)
section
variable (P : Params) (E : Nat → Tok) (L hc it acc q : Addr) (x : List Nat) (tx : Tok) (row : List (Nat × Tok)) (rn : Nat)
noncomputable def mlD (h : List DictEntry) (vs : List Value) (m k l : Nat) : Dyn := [(L, mkF P E x tx acc h), (acc, listN vs m), (q, sqO "list" (rwV row) rn), (hc, cellO (some (.ref q))), (it, riO k l)]
noncomputable def mlKq (vs : List Value) (m k l : Nat) (th : Tok) (r : List (Nat × Tok)) : List (Of Cut) := [fun _ _ => kRN it k l, fun _ τ => kLG q (rwV row) rn k (τ 0) (sv [113] th), fun _ τ => kV "str.__eq__" [sv [113] th, sv [113] (τ 2)] (.bool true),
  fun _ τ => kI "int.__add__" [.int (.ofNat k) (τ 0), .int 1 (τ 4)] (.ofNat (k + 1)), fun ρ τ => kLS q (rwV row) rn (ρ 0) (some (.ofNat (k + 1), τ 5)) none (rwV r), fun ρ τ => kSh (ρ 1) [34] (τ 3) r 0, fun _ τ => kLP acc vs m (sv (shN (r.map (·.1)) [34]) (τ 6))]
noncomputable def mlZq (kk : (Nat → Tok) → Tok) (vs : List Value) (m k l : Nat) (r : List (Nat × Tok)) : Of Fini := fun _ τ => ⟨.inr (mlC P L hc it), mlD P E L hc it acc q x tx row rn (kkE P (kk τ) (.int (.ofNat k) (τ 0))) (vs ++ [sv (shN (r.map (·.1)) [34]) (τ 6)]) (m + 1) (k + 1) l⟩
noncomputable def mlKn (k l d : Nat) (th : Tok) : List (Of Cut) := [fun _ _ => kRN it k l, fun _ τ => kLG q (rwV row) rn k (τ 0) (sv [d] th), fun _ τ => kV "str.__eq__" [sv [d] th, sv [113] (τ 2)] (.bool false)]
noncomputable def mlZn (kk : (Nat → Tok) → Tok) (vs : List Value) (m k l : Nat) : Of Fini := fun _ τ => ⟨.inr (mlC P L hc it), mlD P E L hc it acc q x tx row rn (kkE P (kk τ) (.int (.ofNat k) (τ 0))) vs m (k + 1) l⟩
noncomputable def mlZx (h : List DictEntry) (vs : List Value) (m : Nat) : Of Fini := fun _ _ => ⟨.inl (.ok .next), [(L, mkF P E x tx acc h), (acc, listN vs m), (q, sqO "list" (rwV row) rn)]⟩
end
noncomputable def mkQ : List Nat → List (List Nat)
  | [] => []
  | d :: r => if d = 113 then shN r [34] :: mkQ r else mkQ r
noncomputable def mkN (row : List Nat) (x : List Nat) : List (List Nat) := (x.map fun c => shN row [c]) ++ mkQ row
noncomputable def mlH (P : Params) (n : Nat) (ts : List Tok) : List DictEntry := match n with
  | 0 => []
  | n + 1 => kkE P (hd0 ts) (.int (.ofNat n) (hd1 ts))
noncomputable def kMl (P : Params) (E : Nat → Tok) (L hc it acc q : Addr) (x : List Nat) (tx : Tok) (row : List (Nat × Tok)) (rn : Nat) (ys : Sts) (m n : Nat) : Cut := ⟨none, mlC P L hc it, mlD P E L hc it acc q x tx row rn [] (vsO ys) m 0 n, 10, 0, 4, fun _ _ => .ok .next,
  fun _ ts => [mkF P E x tx acc (mlH P n ts), listN (vsO (zipT (ys.map (·.1) ++ mkQ (row.map (·.1))) (unl (hd2 ts)))) (hd3 ts), sqO "list" (rwV row) rn], fun _ _ => [], none⟩
noncomputable def mkE (τ : Nat → Tok) : Nat → Tok := fun k => match k with
  | 0 => τ 0
  | _ => τ 5
noncomputable def mkYs (x : List Nat) (row : List (Nat × Tok)) (t : Tok) : Sts := zipT (x.map fun c => shN (row.map (·.1)) [c]) (unl t)
noncomputable def mkK (P : Params) (x : List Nat) (tx : Tok) (q : Addr) (row : List (Nat × Tok)) (rn n a : Nat) : List (Of Cut) := [fun _ _ => kSI x tx, fun ρ _ => kMT P (ρ 0) (ρ 1) (ρ 4) (ρ 2) (ρ 3) q x tx row rn,
  fun ρ τ => kMl P (mkE τ) (ρ 0) (ρ 1) (ρ a) (ρ 3) q x tx row rn (mkYs x row (τ 1)) x.length n]
noncomputable def mkZ (x : List Nat) (q : Addr) (row : List (Nat × Tok)) (rn j : Nat) : Of Fini := fun ρ τ => ⟨.inl (.ok (.ret (.ref (ρ 3)))), [(q, sqO "list" (rwV row) rn), (ρ 3, listN (vsO (zipT ((mkYs x row (τ 1)).map (·.1) ++ mkQ (row.map (·.1))) (unl (τ (j + 2))))) (τ (j + 3)))]⟩
noncomputable def kMk (x : List Nat) (tx : Tok) (q : Addr) (row : List (Nat × Tok)) (rn : Nat) : Cut := ⟨none, .call (.ref 919) ⟨[sv x tx, .ref q], []⟩, [(q, sqO "list" (rwV row) rn)], 16, 1, 2, fun as _ => .ok (.ret (.ref (hd0 as))),
  fun _ _ => [sqO "list" (rwV row) rn], fun _ ts => [listN (vsO (zipT (mkN (row.map (·.1)) x) (unl (hd0 ts)))) (hd1 ts)], none⟩
end Mine
end
section
open PySem PySem.W PySem.W.X PyProof.Rows
set_option Elab.async false
set_option maxRecDepth 100000
set_option linter.unusedVariables false
namespace Mine
noncomputable def totS : Str := ⟨⟨[116, 111, 116, 97, 108]⟩⟩
noncomputable def lwB (P : Params) : List Stmt := bodyOf (o931 P)
noncomputable def lwEnv (P : Params) (L tc : Addr) : Env := (entC (o931 P) 931 L [(totS, tc)]).env
noncomputable def sgX (P : Params) : Expr := argE (asgV (stAt (lwB P) 2)) 0
noncomputable def sgEnv (P : Params) (L tc C : Addr) : Env := cEnv (sgX P) [totS] (lwEnv P L tc) C [(totS, tc)]
noncomputable def sgC (P : Params) (L tc C it acc : Addr) : Code := .compLoop (sgX P) 0 (.ref it) (.ref acc) (sgEnv P L tc C)
noncomputable def sgS (P : Params) (L tc C it acc : Addr) : Code := .compStart (sgX P) 0 (.ref it) (.ref acc) (sgEnv P L tc C)
noncomputable def sgL : List Nat := [34, 60, 62, 13, 10, 9, 38]
noncomputable def bitOf (t : Int) (k : Nat) : Bool := (t.fdiv (2 ^ k)).fmod 2 != 0
section
variable (P : Params) (L tc C it acc : Addr) (t : Int) (tt : Tok)
noncomputable def sgD (cd : Obj) (vs : List Value) (m k l : Nat) : Dyn := [(acc, listN vs m), (C, cd), (tc, cellO (some (.int t tt))), (it, riO k l)]
noncomputable def sgK1 (vs : List Value) (m k l e : Nat) : List (Of Cut) := [fun _ _ => kRN it k l, fun _ τ => kI "int.__floordiv__" [.int t tt, .int (.ofNat e) (τ 3)] (t.fdiv (.ofNat e)), fun _ τ => kI "int.__mod__" [.int (t.fdiv (.ofNat e)) (τ 4), .int 2 (τ 5)] ((t.fdiv (.ofNat e)).fmod 2),
  fun _ τ => kV "int.__bool__" [.int ((t.fdiv (.ofNat e)).fmod 2) (τ 6)] (.bool true), fun _ τ => kLP acc vs m (sv [sgL.getD k 0] (τ 8))]
noncomputable def sgK0 (k l e : Nat) : List (Of Cut) := [fun _ _ => kRN it k l, fun _ τ => kI "int.__floordiv__" [.int t tt, .int (.ofNat e) (τ 3)] (t.fdiv (.ofNat e)), fun _ τ => kI "int.__mod__" [.int (t.fdiv (.ofNat e)) (τ 4), .int 2 (τ 5)] ((t.fdiv (.ofNat e)).fmod 2),
  fun _ τ => kV "int.__bool__" [.int ((t.fdiv (.ofNat e)).fmod 2) (τ 6)] (.bool false)]
noncomputable def sgZ1 (kk : (Nat → Tok) → Tok) (vs : List Value) (m k l : Nat) : Of Fini := fun _ τ => ⟨.inr (sgC P L tc C it acc), sgD tc C it acc t tt (dictN (kkE P (kk τ) (.int (.ofNat k) (τ 0))) 1) (vs ++ [sv [sgL.getD k 0] (τ 8)]) (m + 1) (k + 1) l⟩
noncomputable def sgZ0 (kk : (Nat → Tok) → Tok) (vs : List Value) (m k l : Nat) : Of Fini := fun _ τ => ⟨.inr (sgC P L tc C it acc), sgD tc C it acc t tt (dictN (kkE P (kk τ) (.int (.ofNat k) (τ 0))) 1) vs m (k + 1) l⟩
noncomputable def sgY (cd : Obj) (vs : List Value) (m : Nat) : Of Fini := fun _ _ => ⟨.inl (.ok .next), [(acc, listN vs m), (C, cd), (tc, cellO (some (.int t tt)))]⟩
end
end Mine
end
section
open PySem PySem.W PySem.W.X PyProof.Rows
set_option Elab.async false
set_option maxRecDepth 100000
set_option linter.unusedVariables false
namespace Mine
noncomputable def stpOf : Nat → Stp
  | 0 => .L 113
  | 1 => .L 99
  | 2 => .L 104
  | 3 => .U
  | 4 => .L 97
  | 5 => .L 101
  | 6 => .L 100
  | _ => .D
noncomputable def disp8 (f : Nat → Tok) : List Value := [sv [113] (f 0), sv [99] (f 1), sv [104] (f 2), sv [46, 46] (f 3), sv [97] (f 4), sv [101] (f 5), sv [100] (f 6), sv [46] (f 7)]
noncomputable def remN (v : Int) : Nat := (v.fmod 8).toNat
noncomputable def kLI8 (a : Addr) (f : Nat → Tok) (v : Int) (t : Tok) : Cut := ⟨none, .builtin "list.__getitem__" ⟨[.ref a, .int (v.fmod 8) t], []⟩, [(a, listN (disp8 f) 0)], 0, 0, 0, fun _ _ => .ok (.ret (sv (stl (stpOf (remN v))) (f (remN v)))), fun _ _ => [listN (disp8 f) 0], fun _ _ => [], none⟩
noncomputable def lwFor (P : Params) : Stmt := stAt (lwB P) 4
noncomputable def slC (P : Params) (L tc it : Addr) : Code := forC (lwFor P) (.ref it) (lwEnv P L tc)
noncomputable def lwF (P : Params) (E : Nat → Tok) (sc hn : Addr) (x : List Nat) (tx : Tok) (st : Addr) (h : List DictEntry) : Obj :=
  ⟨.type "frame", none, .dict ⟨en P ⟨⟨[115, 99, 114, 105, 112, 116]⟩⟩ (E 0) (.ref sc) :: en P ⟨⟨[104, 97, 110, 100, 115]⟩⟩ (E 1) (.ref hn) :: en P ⟨⟨[115, 105, 103, 110, 115]⟩⟩ (E 2) (sv x tx) :: en P ⟨⟨[115, 116, 101, 112, 115]⟩⟩ (E 3) (.ref st) :: h⟩ (4 + h.length), ⟨[]⟩⟩
section
variable (P : Params) (E : Nat → Tok) (L tc it sc hn st a0 a1 : Addr) (x : List Nat) (tx : Tok) (l : Ints) (ln : Nat)
noncomputable def slD (h : List DictEntry) (W0 W1 : List (Stp × Tok)) (n0 n1 k r : Nat) : Dyn := [(L, lwF P E sc hn x tx st h), (sc, listN (iV l) ln), (st, listN [.ref a0, .ref a1] 0), (a0, listN (stV W0) n0), (a1, listN (stV W1) n1), (it, riO k r)]
noncomputable def t8 (j : Nat) (τ : Nat → Tok) : Nat → Tok := fun i => τ (j + i)
noncomputable def slK (a : Addr) (W : List (Stp × Tok)) (n k r : Nat) (v : Int) (tv : Tok) : List (Of Cut) := [fun _ _ => kRN it k r, fun _ τ => kLG sc (iV l) ln k (τ 0) (.int v tv), fun _ τ => kI "int.__mod__" [.int v tv, .int 8 (τ 12)] (v.fmod 8),
  fun ρ τ => kLI8 (ρ 0) (t8 4 τ) v (τ 13), fun _ τ => kLP a (stV W) n (sv (stl (stpOf (remN v))) (t8 4 τ (remN v)))]
noncomputable def slZ (kk : (Nat → Tok) → Tok) (W0 W1 : (Nat → Tok) → List Value) (n0 n1 k r : Nat) : Of Fini := fun _ τ => ⟨.inr (slC P L tc it), [(L, lwF P E sc hn x tx st (kkE P (kk τ) (.int (.ofNat k) (τ 0)))), (sc, listN (iV l) ln), (st, listN [.ref a0, .ref a1] 0), (a0, listN (W0 τ) n0), (a1, listN (W1 τ) n1), (it, riO (k + 1) r)]⟩
noncomputable def slY (h : List DictEntry) (W0 W1 : List (Stp × Tok)) (n0 n1 : Nat) : Of Fini := fun _ _ => ⟨.inl (.ok .next), [(L, lwF P E sc hn x tx st h), (sc, listN (iV l) ln), (st, listN [.ref a0, .ref a1] 0), (a0, listN (stV W0) n0), (a1, listN (stV W1) n1)]⟩
end
noncomputable def stepAt (l : Ints) (k : Nat) : Stp := stpOf (remN (l.getD k (0, 0)).1)
noncomputable def wayA (n : Nat) (l : Ints) (q c : Tok) (ts : List Tok) : List (Stp × Tok) := match n with
  | 0 => [(.L 113, q), (.L 99, c)]
  | 1 => [(.L 113, q), (.L 99, c), (stepAt l 0, ts.getD 2 0)]
  | 2 => [(.L 113, q), (.L 99, c), (stepAt l 0, ts.getD 2 0)]
  | _ => [(.L 113, q), (.L 99, c), (stepAt l 0, ts.getD 2 0), (stepAt l 2, ts.getD 4 0)]
noncomputable def wayB (n : Nat) (l : Ints) (c q : Tok) (ts : List Tok) : List (Stp × Tok) := match n with
  | 0 => [(.L 99, c), (.L 113, q)]
  | 1 => [(.L 99, c), (.L 113, q)]
  | 2 => [(.L 99, c), (.L 113, q), (stepAt l 1, ts.getD 3 0)]
  | 3 => [(.L 99, c), (.L 113, q), (stepAt l 1, ts.getD 3 0)]
  | _ => [(.L 99, c), (.L 113, q), (stepAt l 1, ts.getD 3 0), (stepAt l 3, ts.getD 5 0)]
noncomputable def slH (P : Params) (n : Nat) (ts : List Tok) : List DictEntry := match n with
  | 0 => []
  | n + 1 => kkE P (hd0 ts) (.int (.ofNat n) (hd1 ts))
noncomputable def kSl8 (P : Params) (E : Nat → Tok) (L tc it sc hn st a0 a1 : Addr) (x : List Nat) (tx : Tok) (l : Ints) (ln n : Nat) (q0 c0 c1 q1 : Tok) : Cut :=
  ⟨none, slC P L tc it, slD P E L it sc hn st a0 a1 x tx l ln [] [(.L 113, q0), (.L 99, c0)] [(.L 99, c1), (.L 113, q1)] 0 0 0 n, 10, 0, 6, fun _ _ => .ok .next,
  fun _ ts => [lwF P E sc hn x tx st (slH P n ts), listN (iV l) ln, listN [.ref a0, .ref a1] 0, listN (stV (wayA n l q0 c0 ts)) ((n + 1) / 2), listN (stV (wayB n l c1 q1 ts)) (n / 2)], fun _ _ => [], none⟩
end Mine
end
section
open PySem PySem.W PySem.W.X PyProof.Rows PySem.Builtin PySem.Builtin.Str
set_option Elab.async false
set_option maxRecDepth 100000
set_option linter.unusedVariables false
namespace Mine
noncomputable def kPC (a : Addr) (vs : List Value) (n : Nat) : Cut := ⟨none, .builtin "proto.collect" ⟨[.ref a], []⟩, [(a, listN vs n)], 0, 1, 1, fun as _ => .ok (.ret (.ref (hd0 as))), fun _ _ => [listN vs n], fun _ ts => [listN vs (hd0 ts)], none⟩
theorem kPC_ok {w : World} {a : Addr} {vs : List Value} {n : Nat} (hsz : vs.length ≤ sizeLine) : Cut.Ok (VW w) (kPC a vs n) := by
  intro A s R _ _ hS ht hR
  have ho : s.heap.get? a = some (listN vs n) := hS.has _ (.head _)
  have G1 := (Got.start hS).alloc (o := listN [] 0) rfl
  obtain ⟨hS1, G2⟩ := G1.up0 (f := Obj.mapSeq (· ++ (⟨vs⟩ : Array Value))) rfl
  have e : ∃ m, Obj.mapSeq (· ++ (⟨vs⟩ : Array Value)) (listN [] 0) = listN vs m := by
    refine ⟨(if ((⟨[]⟩ : Array Value) ++ ⟨vs⟩).size == (⟨[]⟩ : Array Value).size then 0 else 0 + 1), ?_⟩
    have h2 : ((⟨[]⟩ : Array Value) ++ ⟨vs⟩) = ⟨vs⟩ := by simp
    show (⟨_, _, .seq ((⟨[]⟩ : Array Value) ++ ⟨vs⟩) (if ((⟨[]⟩ : Array Value) ++ ⟨vs⟩).size == (⟨[]⟩ : Array Value).size then 0 else 0 + 1), _⟩ : Obj) = _
    generalize (if ((⟨[]⟩ : Array Value) ++ ⟨vs⟩).size == (⟨[]⟩ : Array Value).size then 0 else 0 + 1) = m
    rw [h2]
    rfl
  obtain ⟨m, e⟩ := e
  rw [e] at G2
  have G3 := G2.perm (List.perm_append_comm (l₁ := [_]) (l₂ := [(a, listN vs n)]))
  have fin := hR (.ok (.ret (.ref s.heap.objs.size))) _ _ s.toks ⟨[s.heap.objs.size], [_], rfl, rfl, rfl, rfl⟩ G3 ht
  refine codeAny_builtin F.entry_proto_collect ?_
  rw [Around.under_plainId F.plain_proto_collect _]
  show wpAny _ A.in1 (newList [] >>= fun l => again (.builtin "list.__iadd__" ⟨[l, .ref a], []⟩)) _ _ s
  refine wpAny_bind (wpAny_newObj_type ?_)
  refine wpAny_pure ⟨plainId_quiet F.plain_list_iadd _, codeAny_builtin F.entry_list_iadd ?_⟩
  rw [Around.under_plainId F.plain_list_iadd _]
  show wpAny _ A.in1 (Builtin.List.listExtendWith (.ref s.heap.objs.size) (.ref a) (.ref s.heap.objs.size)) _ _ _
  refine wpAny_mono (wpAny_extend_seq (hsz := hsz) (A := A) (R := R) (s := { s with heap := s.heap.push { cls := .type "list", data := .seq ([] : List Value).toArray } }) _ a _ 0 (.inl rfl) hS1 (Heap.get?_push_of_some _ ho) rfl rfl ?_) (fun fin s' h => h) (fun e s' h => h)
  exact fin
end Mine
end
section
open PySem PySem.W PySem.W.X PyProof.Rows
set_option Elab.async false
set_option maxRecDepth 100000
set_option linter.unusedVariables false
namespace Mine
noncomputable def ifT : Stmt → Expr
  | .If t _ _ _ => t
  | _ => .Constant .none 0 ⟨0, 0, 0, 0⟩
noncomputable def cmpR : Expr → Expr
  | .Compare _ _ r _ => r.getD 0 (.Constant .none 0 ⟨0, 0, 0, 0⟩)
  | e => e
noncomputable def jcX (P : Params) : Expr := argE (argE (asgV (stAt (lwB P) 5)) 0) 0
noncomputable def jdX (P : Params) : Expr := cmpR (ifT (stAt (lwB P) 6))
noncomputable def jcE (P : Params) (L tc C : Addr) : Env := cEnv (jcX P) [] (lwEnv P L tc) C []
noncomputable def jdE (P : Params) (L tc C : Addr) : Env := cEnv (jdX P) [] (lwEnv P L tc) C []
noncomputable def jcC (P : Params) (L tc C it acc : Addr) : Code := .compLoop (jcX P) 0 (.ref it) (.ref acc) (jcE P L tc C)
noncomputable def jcS (P : Params) (L tc C it acc : Addr) : Code := .compStart (jcX P) 0 (.ref it) (.ref acc) (jcE P L tc C)
noncomputable def jdC (P : Params) (L tc C it acc : Addr) : Code := .compLoop (jdX P) 0 (.ref it) (.ref acc) (jdE P L tc C)
noncomputable def jdS (P : Params) (L tc C it acc : Addr) : Code := .compStart (jdX P) 0 (.ref it) (.ref acc) (jdE P L tc C)
noncomputable def wayE (P : Params) (k : Tok) (v : Value) : List DictEntry := [en P ⟨⟨[119, 97, 121]⟩⟩ k v]
section
variable (P : Params) (L tc C it acc st : Addr) (gs : List Value)
noncomputable def jcD (cd : Obj) (vs : List Value) (m i : Nat) : Dyn := [(acc, listN vs m), (C, cd), (it, itO "list_iterator" st i), (st, sqO "list" gs 0)]
noncomputable def jcK (vs : List Value) (m i : Nat) (a : Addr) (l : Sts) (n : Nat) : List (Of Cut) := [fun _ _ => kIN it st i gs 0 (.ref a), fun _ _ => kPC a (vsO l) n, fun _ τ => kJn (τ 1) l, fun _ τ => kLP acc vs m (sv (wordO l) (τ 3))]
noncomputable def jcZ (code : Code) (k : (Nat → Tok) → Tok) (j : Nat) (vs : List Value) (m i : Nat) (a : Addr) (l : Sts) (n : Nat) : Of Fini := fun _ τ => ⟨.inr code, jcD C it acc st gs (dictN (wayE P (k τ) (.ref a)) 1) (vs ++ [sv (wordO l) (τ j)]) (m + 1) (i + 1) ++ [(a, listN (vsO l) n)]⟩
noncomputable def jdK (vs : List Value) (m i : Nat) (a : Addr) (l : Sts) (n : Nat) : List (Of Cut) := [fun _ _ => kIN it st i gs 0 (.ref a), fun _ τ => kSJ [47] (τ 2) a l n (joinN 47 (l.map (·.1))), fun _ τ => kS "str.__add__" [sv [47] (τ 1), sv (joinN 47 (l.map (·.1))) (τ 3)] ⟨⟨wordO l⟩⟩, fun _ τ => kLP acc vs m (sv (wordO l) (τ 4))]
noncomputable def jcY (cd : Obj) (vs : List Value) (m : Nat) : Of Fini := fun _ _ => ⟨.inl (.ok .next), [(acc, listN vs m), (C, cd), (st, sqO "list" gs 0)]⟩
noncomputable def jcU : List (Of Cut) := [fun _ _ => kIE it st gs 0]
end
noncomputable def kJC (P : Params) (L tc C it acc st a0 a1 : Addr) (l0 l1 : Sts) (n0 n1 : Nat) : Cut := ⟨none, jcS P L tc C it acc, [(acc, listN [] 0), (C, dictN [] 0), (st, sqO "list" [.ref a0, .ref a1] 0), (a0, listN (vsO l0) n0), (a1, listN (vsO l1) n1), (it, itO "list_iterator" st 0)], 12, 0, 3, fun _ _ => .ok .next,
  fun _ ts => [listN [sv (wordO l0) (hd0 ts), sv (wordO l1) (hd1 ts)] 2, dictN (wayE P (hd2 ts) (.ref a1)) 1, sqO "list" [.ref a0, .ref a1] 0, listN (vsO l0) n0, listN (vsO l1) n1], fun _ _ => [], none⟩
noncomputable def kJD (P : Params) (L tc C it acc st a0 a1 : Addr) (l0 l1 : Sts) (n0 n1 : Nat) : Cut := ⟨none, jdS P L tc C it acc, [(acc, listN [] 0), (C, dictN [] 0), (st, sqO "list" [.ref a0, .ref a1] 0), (a0, listN (vsO l0) n0), (a1, listN (vsO l1) n1), (it, itO "list_iterator" st 0)], 12, 0, 3, fun _ _ => .ok .next,
  fun _ ts => [listN [sv (wordO l0) (hd0 ts), sv (wordO l1) (hd1 ts)] 2, dictN (wayE P (hd2 ts) (.ref a1)) 1, sqO "list" [.ref a0, .ref a1] 0, listN (vsO l0) n0, listN (vsO l1) n1], fun _ _ => [], none⟩
end Mine
end
section
open PySem PySem.W PySem.W.X PyProof.Rows
set_option Elab.async false
set_option maxRecDepth 100000
set_option linter.unusedVariables false
namespace Mine
noncomputable def lc_h : List Nat := [0, 0, 1, 0, 1, 1, 0, 1, 0, 1, 1, 0, 1, 0, 1, 0, 1, 1, 2, 1, 0, 1, 0]
noncomputable def lc_e (w : World) : List (Of Ent) := []
noncomputable def tj0_h : List Nat := [3, 0, 3, 1, 2, 2, 2, 4, 3, 4, 0, 1, 1, 4, 0, 4, 1, 1, 3, 2, 4, 0, 3, 1, 1]
noncomputable def tj0_e (w : World) : List (Of Ent) := []
noncomputable def tj1_h : List Nat := [3, 0, 3, 1, 2, 2, 2, 4, 3, 4, 0, 1, 1, 4, 0, 4, 1, 1, 3, 2, 4, 0, 3, 1, 1]
noncomputable def tj1_e (w : World) : List (Of Ent) := []
noncomputable def tje_h : List Nat := [3, 0, 3, 1, 2, 2, 2, 3, 2, 4, 4]
noncomputable def tje_e (w : World) : List (Of Ent) := []
noncomputable def td0_h : List Nat := [0, 0, 2, 1, 2, 1, 0, 0, 3, 1, 0, 5, 4, 5, 6, 6, 0, 6, 0, 1, 1, 7, 5, 5, 4, 0, 0, 1, 0, 1, 3, 3, 0, 3, 0, 1, 1, 104, 1, 0, 0, 2, 2, 2, 2, 1, 0, 1, 1, 0, 1, 3]
noncomputable def td0_e (w : World) : List (Of Ent) := [fun ρ _ => entC (o914 w.params) 914 (ρ 0) [(⟨⟨[104, 97, 110, 100]⟩⟩, ρ 1)]]
noncomputable def td1_h : List Nat := [0, 0, 2, 1, 2, 1, 0, 0, 3, 1, 0, 5, 4, 5, 6, 6, 0, 6, 0, 1, 1, 7, 5, 5, 4, 0, 0, 1, 0, 1, 3, 3, 0, 3, 0, 1, 1, 104, 1, 0, 0, 2, 2, 2, 2, 1, 0, 1, 1, 0, 1, 3]
noncomputable def td1_e (w : World) : List (Of Ent) := [fun ρ _ => entC (o914 w.params) 914 (ρ 0) [(⟨⟨[104, 97, 110, 100]⟩⟩, ρ 1)]]
end Mine
end
section
open PySem PySem.W PySem.W.X PyProof.Rows
set_option Elab.async false
set_option maxRecDepth 100000
set_option linter.unusedVariables false
namespace Mine
noncomputable def tlq0_h : List Nat := [4, 0, 4, 1, 2, 3, 1, 4, 3, 4, 0, 1, 0, 4, 6, 6, 6, 0, 6, 1, 1, 5, 6, 5, 6, 3, 3, 3, 0, 3, 1, 2, 2, 0, 3, 3, 0, 3, 0, 1, 1, 4, 8, 4, 3, 0, 1, 4, 1, 4, 0, 4, 1, 2, 3, 0, 5, 4, 2, 107, 4, 8, 8, 7, 2, 5, 2, 4]
noncomputable def tlq0_e (w : World) : List (Of Ent) := []
noncomputable def tlq1_h : List Nat := [4, 0, 4, 1, 2, 3, 1, 4, 3, 4, 0, 1, 0, 4, 6, 6, 6, 0, 6, 1, 1, 5, 6, 5, 6, 3, 3, 3, 0, 3, 1, 2, 2, 0, 3, 3, 0, 3, 0, 1, 1, 4, 8, 4, 3, 0, 1, 4, 1, 4, 0, 4, 1, 2, 3, 0, 5, 4, 2, 107, 4, 8, 8, 7, 2, 5, 2, 4]
noncomputable def tlq1_e (w : World) : List (Of Ent) := []
noncomputable def tle0_h : List Nat := [4, 0, 4, 1, 2, 3, 1, 4, 3, 4, 0, 1, 0, 3, 5, 5, 0, 5, 0, 1, 1, 105, 1, 0, 4, 0, 3, 3, 6, 5, 2, 2, 1, 2, 105, 5, 4, 2, 2, 0, 1]
noncomputable def tle0_e (w : World) : List (Of Ent) := []
noncomputable def tle1_h : List Nat := [4, 0, 4, 1, 2, 3, 1, 4, 3, 4, 0, 1, 0, 3, 5, 5, 0, 5, 0, 1, 1, 105, 1, 0, 4, 0, 3, 3, 6, 5, 2, 2, 1, 2, 105, 5, 4, 2, 2, 0, 1]
noncomputable def tle1_e (w : World) : List (Of Ent) := []
noncomputable def tlx_h : List Nat := [4, 0, 4, 1, 2, 3, 1, 3, 0, 103, 4, 1, 4, 4]
noncomputable def tlx_e (w : World) : List (Of Ent) := []
end Mine
end
section
open PySem PySem.W PySem.W.X PyProof.Rows
set_option Elab.async false
set_option maxRecDepth 100000
set_option linter.unusedVariables false
namespace Mine
noncomputable def tq0_h : List Nat := [4, 0, 4, 1, 2, 3, 2, 3, 2, 3, 5, 7, 1, 7, 0, 7, 1, 2, 6, 0, 8, 7, 2, 6, 7, 2, 5, 4, 3, 2]
noncomputable def tq0_e (w : World) : List (Of Ent) := []
noncomputable def tq1_h : List Nat := [4, 0, 4, 1, 2, 3, 2, 3, 2, 3, 5, 7, 1, 7, 0, 7, 1, 2, 6, 0, 8, 7, 2, 6, 7, 2, 5, 4, 3, 2]
noncomputable def tq1_e (w : World) : List (Of Ent) := []
noncomputable def tqe_h : List Nat := [4, 0, 4, 1, 2, 3, 2, 3, 0, 2, 4, 4]
noncomputable def tqe_e (w : World) : List (Of Ent) := []
end Mine
end
section
open PySem PySem.W PySem.W.X PyProof.Rows
set_option Elab.async false
set_option maxRecDepth 100000
set_option linter.unusedVariables false
namespace Mine
noncomputable def to0n_h : List Nat := [4, 0, 4, 1, 2, 3, 3, 4, 3, 4, 6, 6, 0, 6, 0, 1, 1, 5, 1, 0, 5, 0, 4, 2, 0, 6, 1, 1, 5, 2, 6, 0, 5, 2, 2, 2, 0]
noncomputable def to0n_e (w : World) : List (Of Ent) := []
noncomputable def to0c_h : List Nat := [4, 0, 4, 1, 2, 3, 3, 4, 3, 4, 6, 6, 0, 6, 0, 1, 1, 5, 1, 0, 5, 0, 4, 2, 2, 1, 0, 6, 1, 1, 5, 2, 6, 0, 5, 2, 2, 2, 0]
noncomputable def to0c_e (w : World) : List (Of Ent) := []
noncomputable def to1n_h : List Nat := [4, 0, 4, 1, 2, 3, 3, 4, 3, 4, 6, 6, 0, 6, 0, 1, 1, 5, 1, 0, 5, 0, 4, 2, 0, 6, 1, 1, 5, 2, 6, 0, 5, 2, 2, 2, 0]
noncomputable def to1n_e (w : World) : List (Of Ent) := []
noncomputable def to1c_h : List Nat := [4, 0, 4, 1, 2, 3, 3, 4, 3, 4, 6, 6, 0, 6, 0, 1, 1, 5, 1, 0, 5, 0, 4, 2, 2, 1, 0, 6, 1, 1, 5, 2, 6, 0, 5, 2, 2, 2, 0]
noncomputable def to1c_e (w : World) : List (Of Ent) := []
noncomputable def toe_h : List Nat := [4, 0, 4, 1, 2, 3, 3, 3, 3, 4, 4, 4]
noncomputable def toe_e (w : World) : List (Of Ent) := []
end Mine
end
section
open PySem PySem.W PySem.W.X PyProof.Rows
set_option Elab.async false
set_option maxRecDepth 100000
set_option linter.unusedVariables false
namespace Mine
noncomputable def ti0_h : List Nat := [4, 0, 4, 1, 2, 3, 3, 4, 3, 0, 4, 5, 0, 1, 1, 0, 0, 4, 1, 1, 3, 2, 5, 0, 3, 3, 1, 1]
noncomputable def ti0_e (w : World) : List (Of Ent) := []
noncomputable def ti1_h : List Nat := [4, 0, 4, 1, 2, 3, 3, 4, 3, 0, 4, 5, 0, 1, 1, 0, 0, 4, 1, 1, 3, 2, 5, 0, 3, 3, 1, 1]
noncomputable def ti1_e (w : World) : List (Of Ent) := []
noncomputable def tie_h : List Nat := [4, 0, 4, 1, 2, 3, 3, 3, 3, 4, 4, 4]
noncomputable def tie_e (w : World) : List (Of Ent) := []
end Mine
end
section
open PySem PySem.W PySem.W.X PyProof.Rows
set_option Elab.async false
set_option maxRecDepth 100000
namespace Mine
noncomputable def sq0_h : List Nat := [3, 0, 3, 1, 2, 2, 1, 3, 2, 3, 0, 1, 0, 3, 0, 1, 0, 2, 3, 2, 1, 0]
noncomputable def sq0_e (w : World) : List (Of Ent) := []
noncomputable def sq1_h : List Nat := [3, 0, 3, 1, 2, 2, 1, 3, 2, 3, 0, 1, 0, 3, 0, 1, 0, 2, 3, 2, 1, 0]
noncomputable def sq1_e (w : World) : List (Of Ent) := []
noncomputable def sa0_h : List Nat := [3, 0, 3, 1, 2, 2, 1, 3, 2, 3, 0, 1, 0, 3, 0, 1, 0, 0, 1, 0, 3, 0, 1, 1, 0, 0, 1, 0, 4, 3, 2, 3, 3, 2, 1]
noncomputable def sa0_e (w : World) : List (Of Ent) := []
noncomputable def sa1_h : List Nat := [3, 0, 3, 1, 2, 2, 1, 3, 2, 3, 0, 1, 0, 3, 0, 1, 0, 0, 1, 0, 3, 0, 1, 1, 0, 0, 1, 0, 4, 3, 2, 3, 3, 2, 1]
noncomputable def sa1_e (w : World) : List (Of Ent) := []
noncomputable def sb0_h : List Nat := [3, 0, 3, 1, 2, 2, 1, 3, 2, 3, 0, 1, 0, 3, 0, 1, 0, 0, 1, 0, 3, 0, 1, 1, 0, 0, 0, 4, 3, 2, 3, 3, 2, 1]
noncomputable def sb0_e (w : World) : List (Of Ent) := []
noncomputable def sb1_h : List Nat := [3, 0, 3, 1, 2, 2, 1, 3, 2, 3, 0, 1, 0, 3, 0, 1, 0, 0, 1, 0, 3, 0, 1, 1, 0, 0, 0, 4, 3, 2, 3, 3, 2, 1]
noncomputable def sb1_e (w : World) : List (Of Ent) := []
noncomputable def sc0_h : List Nat := [3, 0, 3, 1, 2, 2, 1, 3, 2, 3, 0, 1, 0, 3, 0, 1, 0, 0, 1, 0, 3, 0, 1, 0, 3, 3, 3, 4, 4, 4, 0, 4, 1, 1, 3, 5, 5, 0, 5, 1, 1, 4, 5, 5, 2, 2, 2, 0, 2, 1, 1, 1, 5, 2, 2, 2, 0, 2, 1, 1, 1, 0, 0, 1, 0, 5, 4, 2, 5, 4, 3, 2, 1, 0]
noncomputable def sc0_e (w : World) : List (Of Ent) := []
noncomputable def sc1_h : List Nat := [3, 0, 3, 1, 2, 2, 1, 3, 2, 3, 0, 1, 0, 3, 0, 1, 0, 0, 1, 0, 3, 0, 1, 0, 3, 3, 3, 4, 4, 4, 0, 4, 1, 1, 3, 5, 5, 0, 5, 1, 1, 4, 5, 5, 2, 2, 2, 0, 2, 1, 1, 1, 5, 2, 2, 2, 0, 2, 1, 1, 1, 0, 0, 1, 0, 5, 4, 2, 5, 4, 3, 2, 1, 0]
noncomputable def sc1_e (w : World) : List (Of Ent) := []
noncomputable def sd0_h : List Nat := [3, 0, 3, 1, 2, 2, 1, 3, 2, 3, 0, 1, 0, 3, 0, 1, 0, 0, 1, 0, 3, 0, 1, 0, 3, 3, 3, 4, 4, 4, 0, 4, 1, 1, 3, 5, 5, 0, 5, 1, 1, 4, 2, 5, 4, 3, 2, 1, 0]
noncomputable def sd0_e (w : World) : List (Of Ent) := []
noncomputable def sd1_h : List Nat := [3, 0, 3, 1, 2, 2, 1, 3, 2, 3, 0, 1, 0, 3, 0, 1, 0, 0, 1, 0, 3, 0, 1, 0, 3, 3, 3, 4, 4, 4, 0, 4, 1, 1, 3, 5, 5, 0, 5, 1, 1, 4, 2, 5, 4, 3, 2, 1, 0]
noncomputable def sd1_e (w : World) : List (Of Ent) := []
noncomputable def se_h : List Nat := [3, 0, 3, 1, 2, 2, 1, 3, 0, 2, 4, 1]
noncomputable def se_e (w : World) : List (Of Ent) := []
noncomputable def sh0_h : List Nat := [0, 0, 1, 0, 1, 0, 0, 0, 1, 1, 0, 1, 0, 0, 1, 1, 0, 1, 0, 0, 1, 1, 0, 1, 0, 0, 1, 1, 0, 1, 0, 0, 1, 1, 0, 1, 0, 0, 1, 1, 0, 1, 0, 0, 1, 1, 0, 1, 0, 0, 1, 1, 0, 1, 0, 0, 1, 1, 0, 1, 0, 0, 1, 1, 0, 1, 0, 0, 1, 1, 0, 1, 0, 0, 1, 1, 0, 1, 0, 0, 1, 1, 0, 1, 0, 0, 1, 1, 0, 1, 0, 0, 1, 1, 0, 1, 0, 0, 1, 1, 0, 1, 0, 0, 1, 1, 0, 1, 0, 0, 1, 1, 0, 1, 0, 0, 6, 6, 5, 6, 0, 0, 6, 6, 5, 6, 0, 0, 6, 6, 5, 6, 0, 0, 6, 6, 5, 6, 0, 0, 6, 6, 5, 6, 7, 6, 7, 7, 6, 7, 8, 8, 0, 8, 0, 1, 1, 9, 7, 7, 0, 5, 4, 3, 2, 1, 0, 1, 1, 1]
noncomputable def sh0_e (w : World) : List (Of Ent) := [fun ρ _ => entOf (o909 w.params) 909 (ρ 0)]
noncomputable def sh1_h : List Nat := [0, 0, 1, 0, 1, 0, 0, 0, 1, 1, 0, 1, 0, 0, 1, 1, 0, 1, 0, 0, 1, 1, 0, 1, 0, 0, 1, 1, 0, 1, 0, 0, 1, 1, 0, 1, 0, 0, 1, 1, 0, 1, 0, 0, 1, 1, 0, 1, 0, 0, 1, 1, 0, 1, 0, 0, 1, 1, 0, 1, 0, 0, 1, 1, 0, 1, 0, 0, 1, 1, 0, 1, 0, 0, 1, 1, 0, 1, 0, 0, 1, 1, 0, 1, 0, 0, 1, 1, 0, 1, 0, 0, 1, 1, 0, 1, 0, 0, 1, 1, 0, 1, 0, 0, 1, 1, 0, 1, 0, 0, 1, 1, 0, 1, 0, 0, 6, 6, 5, 6, 0, 0, 6, 6, 5, 6, 0, 0, 6, 6, 5, 6, 0, 0, 6, 6, 5, 6, 0, 0, 6, 6, 5, 6, 7, 6, 7, 7, 6, 7, 8, 8, 0, 8, 0, 1, 1, 9, 7, 7, 0, 5, 4, 3, 2, 1, 0, 1, 1, 1]
noncomputable def sh1_e (w : World) : List (Of Ent) := [fun ρ _ => entOf (o909 w.params) 909 (ρ 0)]
end Mine
end
section
open PySem PySem.W PySem.W.X PyProof.Rows PySem.Builtin PySem.Builtin.Str
set_option Elab.async false
set_option maxRecDepth 100000
namespace Mine
section
variable (w : World) (b c : Bool) (ρ : Nat → Addr) (τ : Nat → Tok) (E : Nat → Tok) (L it q td xi : Addr) (x : List Nat) (tx : Tok) (vs : List Value) (n : Nat) (lo li : DL) (no ni : Nat) (i d : Nat) (th ty k : Tok) (hv : Value)
noncomputable abbrev PW (w : World) (b c : Bool) : Params := (wF w b c).params
theorem sq0_run (y : List Nat) : Both (runOf (wF w b c) ρ τ 300 (sqZ (PW w b c) E L it q td x tx vs n kNew 1 i th y ty) sq0_h (sqK it q vs n 1 i th) (sq0_e (wF w b c)) 6 (shC (PW w b c) L it) (shB L it q vs n (shF (PW w b c) E x tx q td y ty []) i)) := by cases b <;> exact both_of (by kernel_rfl)
theorem sa0_run (v : Nat) (u : List Nat) : Both (runOf (wF w b c) ρ τ 300 (saZ (PW w b c) E L it q td x tx vs n kNew 1 i d th v u) sa0_h (saK it q vs n 1 i d th v u ty) (sa0_e (wF w b c)) 6 (shC (PW w b c) L it) (shB L it q vs n (shF (PW w b c) E x tx q td (38 :: v :: u) ty []) i)) := by cases b <;> exact both_of (by kernel_rfl)
theorem sb0_run : Both (runOf (wF w b c) ρ τ 300 (sbZ (PW w b c) E L it q td x tx vs n kNew 1 i d th) sb0_h (sbK it q vs n 1 i d th ty) (sb0_e (wF w b c)) 6 (shC (PW w b c) L it) (shB L it q vs n (shF (PW w b c) E x tx q td [38] ty []) i)) := by cases b <;> exact both_of (by kernel_rfl)
theorem sc0_run (cc : Nat) (v : List Nat) (tv : Tok) : Both (runOf (wF w b c) ρ τ 300 (scZ (PW w b c) E L it q td xi x tx vs n lo li no ni kNew 1 i d th v) sc0_h (scK (PW w b c) it q td xi vs n lo li no ni 1 i d th cc ty v tv) (sc0_e (wF w b c)) 6 (shC (PW w b c) L it) (shD (PW w b c) L it q td xi vs n lo li no ni (shF (PW w b c) E x tx q td [cc] ty []) i)) := by cases b <;> exact both_of (by kernel_rfl)
theorem sd0_run (cc : Nat) : Both (runOf (wF w b c) ρ τ 300 (sdZ (PW w b c) E L it q td xi x tx vs n lo li no ni kNew 1 i d th cc ty) sd0_h (sdK (PW w b c) it q td xi vs n lo li no ni 1 i d th cc ty) (sd0_e (wF w b c)) 6 (shC (PW w b c) L it) (shD (PW w b c) L it q td xi vs n lo li no ni (shF (PW w b c) E x tx q td [cc] ty []) i)) := by cases b <;> exact both_of (by kernel_rfl)
theorem sq1_run (y : List Nat) : Both (runOf (wF w b c) ρ τ 300 (sqZ (PW w b c) E L it q td x tx vs n (kOld k) 1 i th y ty) sq1_h (sqK it q vs n 1 i th) (sq1_e (wF w b c)) 6 (shC (PW w b c) L it) (shB L it q vs n (shF (PW w b c) E x tx q td y ty (shH (PW w b c) k hv)) i)) := by cases b <;> exact both_of (by kernel_rfl)
theorem sa1_run (v : Nat) (u : List Nat) : Both (runOf (wF w b c) ρ τ 300 (saZ (PW w b c) E L it q td x tx vs n (kOld k) 1 i d th v u) sa1_h (saK it q vs n 1 i d th v u ty) (sa1_e (wF w b c)) 6 (shC (PW w b c) L it) (shB L it q vs n (shF (PW w b c) E x tx q td (38 :: v :: u) ty (shH (PW w b c) k hv)) i)) := by cases b <;> exact both_of (by kernel_rfl)
theorem sb1_run : Both (runOf (wF w b c) ρ τ 300 (sbZ (PW w b c) E L it q td x tx vs n (kOld k) 1 i d th) sb1_h (sbK it q vs n 1 i d th ty) (sb1_e (wF w b c)) 6 (shC (PW w b c) L it) (shB L it q vs n (shF (PW w b c) E x tx q td [38] ty (shH (PW w b c) k hv)) i)) := by cases b <;> exact both_of (by kernel_rfl)
theorem sc1_run (cc : Nat) (v : List Nat) (tv : Tok) : Both (runOf (wF w b c) ρ τ 300 (scZ (PW w b c) E L it q td xi x tx vs n lo li no ni (kOld k) 1 i d th v) sc1_h (scK (PW w b c) it q td xi vs n lo li no ni 1 i d th cc ty v tv) (sc1_e (wF w b c)) 6 (shC (PW w b c) L it) (shD (PW w b c) L it q td xi vs n lo li no ni (shF (PW w b c) E x tx q td [cc] ty (shH (PW w b c) k hv)) i)) := by cases b <;> exact both_of (by kernel_rfl)
theorem sd1_run (cc : Nat) : Both (runOf (wF w b c) ρ τ 300 (sdZ (PW w b c) E L it q td xi x tx vs n lo li no ni (kOld k) 1 i d th cc ty) sd1_h (sdK (PW w b c) it q td xi vs n lo li no ni 1 i d th cc ty) (sd1_e (wF w b c)) 6 (shC (PW w b c) L it) (shD (PW w b c) L it q td xi vs n lo li no ni (shF (PW w b c) E x tx q td [cc] ty (shH (PW w b c) k hv)) i)) := by cases b <;> exact both_of (by kernel_rfl)
theorem she_run (es : List DictEntry) (m : Nat) : Both (runOf (wF w b c) ρ τ 100 (seZ L q vs n ⟨.type "frame", none, .dict ⟨es⟩ m, ⟨[]⟩⟩) se_h (seK it q vs n) (se_e (wF w b c)) 6 (shC (PW w b c) L it) (shB L it q vs n ⟨.type "frame", none, .dict ⟨es⟩ m, ⟨[]⟩⟩ vs.length)) := by cases b <;> exact both_of (by kernel_rfl)
theorem sh0_run : Both (runOf (wF w b c) ρ τ 1000 (shZ q x tx [] n) sh0_h (shK (PW w b c) q x tx [] n) (sh0_e (wF w b c)) 8 (.call (.ref 909) ⟨[sv x tx, .ref q], []⟩) [(q, sqO "list" (rwV []) n)]) := by cases b <;> exact both_of (by kernel_rfl)
theorem sh1_run (p : Nat × Tok) (row : List (Nat × Tok)) : Both (runOf (wF w b c) ρ τ 1000 (shZ q x tx (p :: row) n) sh1_h (shK (PW w b c) q x tx (p :: row) n) (sh1_e (wF w b c)) 8 (.call (.ref 909) ⟨[sv x tx, .ref q], []⟩) [(q, sqO "list" (rwV (p :: row)) n)]) := by cases b <;> exact both_of (by kernel_rfl)
end
end Mine
end
section
open PySem PySem.W PySem.W.X PyProof.Rows PySem.Builtin PySem.Builtin.Str
set_option Elab.async false
set_option maxRecDepth 100000
namespace Mine
theorem lk_mem : ∀ {l : List (Nat × List Nat)} {c : Nat} {v : List Nat}, lk l c = some v → (c, v) ∈ l
  | [], _, _, h => by cases h
  | p :: l, c, v, h => by
    unfold lk at h
    split at h
    · rename_i e
      cases h
      rw [← e]
      exact .head _
    · exact .tail _ (lk_mem h)
theorem tab_all : ∀ d, ∀ p ∈ tabOf d, p.2 ≠ [] ∧ p.2.length ≤ 5 ∧ p.1 ≠ 38 := fun d => by
  unfold tabOf
  split <;> decide
theorem lk_ok {d c : Nat} {v : List Nat} (h : lk (tabOf d) c = some v) : v ≠ [] ∧ v.length ≤ 5 := ⟨(tab_all d _ (lk_mem h)).1, (tab_all d _ (lk_mem h)).2.1⟩
theorem dLook_mk {T : Nat → Tok} {c : Nat} : ∀ {l : List (Nat × List Nat)} {j : Nat}, (lk l c = none → dLook (mkDL T j l) [c] = none) ∧ (∀ v, lk l c = some v → ∃ t, dLook (mkDL T j l) [c] = some (sv v t))
  | [], _ => ⟨fun _ => rfl, fun _ h => by cases h⟩
  | p :: l, j => by
    have ih := dLook_mk (T := T) (c := c) (l := l) (j := j + 2)
    unfold lk mkDL dLook
    by_cases e : p.1 = c
    · rw [if_pos e]
      refine ⟨fun h => (nomatch h), fun v h => ⟨T (j + 1), ?_⟩⟩
      rw [if_pos (by rw [e])]
      cases h
      rfl
    · rw [if_neg e]
      have ne : ¬ [p.1] = [c] := fun q => e (List.cons.inj q).1
      simp only [ne, if_false]
      exact ih
noncomputable def Good (y : List Nat) : Prop := (∃ u, y = 38 :: u) ∨ ∃ c, c ≠ 38 ∧ y = [c]
theorem sh1_good {d : Nat} {y : List Nat} (h : Good y) : Good (sh1 d y) := by
  unfold sh1
  split
  · exact h
  · rcases h with ⟨u, rfl⟩ | ⟨c, hc, rfl⟩
    · exact .inl ⟨_, rfl⟩
    · simp only [hc, if_false]
      split
      · exact .inl ⟨_, rfl⟩
      · exact .inr ⟨c, hc, rfl⟩
theorem sh1_len {d : Nat} {y : List Nat} : (sh1 d y).length ≤ y.length + 5 := by
  unfold sh1
  split
  · exact Nat.le_add_right _ _
  · split
    · simp
    · split
      · simp [amp5]
      · split
        · rename_i v h
          have := (lk_ok h).2
          simp; omega
        · simp
section
variable {w : World} {b c : Bool} {E : Nat → Tok} {L it q td : Addr} {x : List Nat} {tx : Tok} {vs : List Value} {n : Nat} {lo : DL} {no : Nat} {i d : Nat} {th ty : Tok} {P : Result → Dyn → Prop} {ds : Dyn} {y : List Nat} {h : List DictEntry}
theorem sh_turn (hh : h = [] ∨ ∃ k hv, h = shH (PW w b c) k hv) (hv : vs[i]? = some (sv [d] th)) (hy : Good y) (hl : y.length + 8 ≤ sizeLine)
    (hd : d = 113 ∨ (d ≠ 113 ∧ ∃ T j xi ni R, dLook lo [d] = some (.ref xi) ∧ ds.Perm ((xi, dlO (PW w b c) (mkDL T j (tabOf d)) ni) :: R)))
    (next : ∀ k ty', Spec (VW (wF w b c)) none 6 (shC (PW w b c) L it) (shB L it q vs n (shF (PW w b c) E x tx q td (sh1 d y) ty' (shH (PW w b c) k (sv [d] th))) (i + 1) ++ (td, dlO (PW w b c) lo no) :: ds) P) :
    Spec (VW (wF w b c)) none 6 (shC (PW w b c) L it) (shB L it q vs n (shF (PW w b c) E x tx q td y ty h) i ++ (td, dlO (PW w b c) lo no) :: ds) P := by
  rcases hd with rfl | ⟨hd, T, j, xi, ni, R, hlo, hp⟩
  · have e : sh1 113 y = y := by unfold sh1; simp
    rw [e] at next
    have ks : Oks (wF w b c) (sqK it q vs n 1 i th) := .cons (fun _ _ => kIN_ok hv) <| .cons (fun _ _ => sne_is (by decide)) <| .cons (fun _ _ => sne_is (by decide)) .nil
    rcases hh with rfl | ⟨k, hv', rfl⟩
    · exact spec_run_fr _ (fun ρ τ => sq0_run w b c ρ τ E L it q td x tx vs n i th ty y) ks fun ρ τ => next _ _
    · exact spec_run_fr _ (fun ρ τ => sq1_run w b c ρ τ E L it q td x tx vs n i th ty k hv' y) ks fun ρ τ => next _ _
  · have nq : ([d] != [113]) = true := by simpa using hd
    rcases hy with ⟨u, rfl⟩ | ⟨cc, hc, rfl⟩
    · have e : sh1 d (38 :: u) = amp5 ++ u := by unfold sh1; simp [hd]
      rw [e] at next
      cases u with
      | nil =>
        have ks : Oks (wF w b c) (sbK it q vs n 1 i d th ty) := .cons (fun _ _ => kIN_ok hv) <| .cons (fun _ _ => sne_is nq) <| .cons (fun _ _ => gi_ok) <| .cons (fun _ _ => seq_is (by decide)) <| .cons (fun _ _ => sl1_ok (by decide)) .nil
        rcases hh with rfl | ⟨k, hv', rfl⟩
        · exact spec_run_fr _ (fun ρ τ => sb0_run w b c ρ τ E L it q td x tx vs n i d th ty) ks fun ρ τ => next _ _
        · exact spec_run_fr _ (fun ρ τ => sb1_run w b c ρ τ E L it q td x tx vs n i d th ty k hv') ks fun ρ τ => next _ _
      | cons v u =>
        simp only [List.length_cons] at hl
        have ks : Oks (wF w b c) (saK it q vs n 1 i d th v u ty) := .cons (fun _ _ => kIN_ok hv) <| .cons (fun _ _ => sne_is nq) <| .cons (fun _ _ => gi_ok) <| .cons (fun _ _ => seq_is (by decide)) <|
          .cons (fun _ _ => sl1_ok (by simp only [List.length_cons]; omega)) <| .cons (fun _ _ => add_ok (by decide) (by simp) (by simp only [List.length_cons, List.length_nil]; omega)) .nil
        rcases hh with rfl | ⟨k, hv', rfl⟩
        · exact spec_run_fr _ (fun ρ τ => sa0_run w b c ρ τ E L it q td x tx vs n i d th ty v u) ks fun ρ τ => next _ _
        · exact spec_run_fr _ (fun ρ τ => sa1_run w b c ρ τ E L it q td x tx vs n i d th ty k hv' v u) ks fun ρ τ => next _ _
    · have ne : ([cc] == [38]) = false := by simpa using hc
      have p1 : ∀ fr i, (shB L it q vs n fr i ++ (td, dlO (PW w b c) lo no) :: ds).Perm (shD (PW w b c) L it q td xi vs n lo (mkDL T j (tabOf d)) no ni fr i ++ R) := fun fr i =>
        .cons _ (.cons _ (.cons _ (.cons _ hp)))
      refine .ord (p1 _ _) ?_
      have next : ∀ k ty', Spec (VW (wF w b c)) none 6 (shC (PW w b c) L it) (shD (PW w b c) L it q td xi vs n lo (mkDL T j (tabOf d)) no ni (shF (PW w b c) E x tx q td (sh1 d [cc]) ty' (shH (PW w b c) k (sv [d] th))) (i + 1) ++ R) P :=
        fun k ty' => .ord (p1 _ _).symm (next k ty')
      cases e : lk (tabOf d) cc with
      | none =>
        have e1 : sh1 d [cc] = [cc] := by unfold sh1; simp [hd, hc, e]
        rw [e1] at next
        have ks : Oks (wF w b c) (sdK (PW w b c) it q td xi vs n lo (mkDL T j (tabOf d)) no ni 1 i d th cc ty) := .cons (fun _ _ => kIN_ok hv) <| .cons (fun _ _ => sne_is nq) <| .cons (fun _ _ => gi_ok) <| .cons (fun _ _ => seq_is ne) <|
          .cons (fun _ _ => sne_is nq) <| .cons (fun _ _ => kDG_ok hlo) <| .cons (fun _ _ => kDC_ok (by rw [dLook_mk.1 e]; rfl)) .nil
        rcases hh with rfl | ⟨k, hv', rfl⟩
        · exact spec_run_fr _ (fun ρ τ => sd0_run w b c ρ τ E L it q td xi x tx vs n lo (mkDL T j (tabOf d)) no ni i d th ty cc) ks fun ρ τ => next _ _
        · exact spec_run_fr _ (fun ρ τ => sd1_run w b c ρ τ E L it q td xi x tx vs n lo (mkDL T j (tabOf d)) no ni i d th ty k hv' cc) ks fun ρ τ => next _ _
      | some v =>
        have e1 : sh1 d [cc] = 38 :: v := by unfold sh1; simp [hd, hc, e]
        rw [e1] at next
        obtain ⟨tv, e2⟩ := (dLook_mk (T := T) (j := j)).2 v e
        have hvv := lk_ok e
        have ks : Oks (wF w b c) (scK (PW w b c) it q td xi vs n lo (mkDL T j (tabOf d)) no ni 1 i d th cc ty v tv) := .cons (fun _ _ => kIN_ok hv) <| .cons (fun _ _ => sne_is nq) <| .cons (fun _ _ => gi_ok) <| .cons (fun _ _ => seq_is ne) <|
          .cons (fun _ _ => sne_is nq) <| .cons (fun _ _ => kDG_ok hlo) <| .cons (fun _ _ => kDC_ok (by rw [e2]; rfl)) <| .cons (fun _ _ => kDG_ok hlo) <| .cons (fun _ _ => kDG_ok e2) <|
          .cons (fun _ _ => add_ok (x := [38]) (by simp) hvv.1 (by simp only [List.length_cons, List.length_nil]; omega)) .nil
        rcases hh with rfl | ⟨k, hv', rfl⟩
        · exact spec_run_fr _ (fun ρ τ => sc0_run w b c ρ τ E L it q td xi x tx vs n lo (mkDL T j (tabOf d)) no ni i d th ty cc v tv) ks fun ρ τ => next _ _
        · exact spec_run_fr _ (fun ρ τ => sc1_run w b c ρ τ E L it q td xi x tx vs n lo (mkDL T j (tabOf d)) no ni i d th ty k hv' cc v tv) ks fun ρ τ => next _ _
end
noncomputable def Hand (d : Nat) : Prop := d = 113 ∨ d = 97 ∨ d = 99 ∨ d = 100 ∨ d = 101 ∨ d = 104
theorem rwV_get : ∀ (d : List (Nat × Tok)) (p : Nat × Tok) (r : List (Nat × Tok)), (rwV (d ++ p :: r))[d.length]? = some (sv [p.1] p.2)
  | [], _, _ => rfl
  | _ :: d, p, r => rwV_get d p r
theorem rwV_len : ∀ l : List (Nat × Tok), (rwV l).length = l.length
  | [] => rfl
  | _ :: l => congrArg (· + 1) (rwV_len l)
section
variable {w : World} {b c : Bool} {T E : Nat → Tok} {L it q td xa xc xd xe xh : Addr} {x : List Nat} {tx : Tok} {n : Nat}
theorem tl_hand {d : Nat} (h : Hand d) : d = 113 ∨ (d ≠ 113 ∧ ∃ T' j xi ni R, dLook (tlD T xa xc xd xe xh) [d] = some (.ref xi) ∧ (tlDs (PW w b c) T xa xc xd xe xh).Perm ((xi, dlO (PW w b c) (mkDL T' j (tabOf d)) ni) :: R)) := by
  rcases h with rfl | rfl | rfl | rfl | rfl | rfl
  · exact .inl rfl
  · exact .inr ⟨by decide, T, 3, xa, 6, _, rfl, .refl _⟩
  · exact .inr ⟨by decide, T, 22, xc, 2, _, rfl, List.perm_middle (l₁ := [_])⟩
  · exact .inr ⟨by decide, T, 29, xd, 5, _, rfl, List.perm_middle (l₁ := [_, _])⟩
  · exact .inr ⟨by decide, T, 45, xe, 3, _, rfl, List.perm_middle (l₁ := [_, _, _])⟩
  · exact .inr ⟨by decide, T, 55, xh, 2, _, rfl, List.perm_middle (l₁ := [_, _, _, _])⟩
theorem sh_mid : ∀ (rest done : List (Nat × Tok)) (y : List Nat) (ty : Tok) (k : Tok) (p : Nat × Tok), (∀ p ∈ rest, Hand p.1) → Good y → y.length + 8 + rest.length * 5 ≤ sizeLine →
    Spec (VW (wF w b c)) none 6 (shC (PW w b c) L it) (shL (PW w b c) T L it q td xa xc xd xe xh (rwV (done ++ p :: rest)) n (shF (PW w b c) E x tx q td y ty (shH (PW w b c) k (sv [p.1] p.2))) (done.length + 1))
      fun r D => ∃ (t k : Tok) (p' : Nat × Tok), r = .ok .next ∧ ∃ R, D = [(L, shF (PW w b c) E x tx q td (shN (rest.map (·.1)) y) t (shH (PW w b c) k (sv [p'.1] p'.2))), (q, sqO "list" (rwV (done ++ p :: rest)) n)] ++ R
  | [], done, y, ty, k, p, _, _, _ => by
    have e : done.length + 1 = (rwV (done ++ [p])).length := by rw [rwV_len]; simp
    rw [e]
    exact spec_run_fr _ (fun ρ τ => she_run w b c ρ τ L it q (rwV (done ++ [p])) n _ _) (Oks.cons (fun _ _ => kIE_ok) .nil) fun ρ τ => ⟨ty, k, p, rfl, _, rfl⟩
  | s :: rest, done, y, ty, k, p, hs, hy, hb => by
    have e0 : (rwV (done ++ p :: s :: rest))[done.length + 1]? = some (sv [s.1] s.2) := by
      have := rwV_get (done ++ [p]) s rest
      simpa using this
    have l1 := sh1_len (d := s.1) (y := y)
    simp only [List.length_cons] at hb
    refine sh_turn (.inr ⟨k, _, rfl⟩) e0 hy (by omega) (tl_hand (hs s (.head _))) fun k' ty' => ?_
    have ih := sh_mid rest (done ++ [p]) (sh1 s.1 y) ty' k' s (fun x hx => hs x (.tail _ hx)) (sh1_good hy) (by omega)
    have eA : done ++ [p] ++ s :: rest = done ++ p :: s :: rest := by simp
    have eL : (done ++ [p]).length = done.length + 1 := by simp
    rw [eA, eL] at ih
    exact ih
theorem kShl_ok {row : List (Nat × Tok)} (hs : ∀ p ∈ row, Hand p.1) (hx : Good x) (hb : x.length + 8 + row.length * 5 ≤ sizeLine) : Cut.Ok (VW (wF w b c)) (kShl (PW w b c) T E L it q td xa xc xd xe xh x tx row n) := by
  cases row with
  | nil =>
    refine Spec.drop (P := fun r D => r = .ok .next ∧ ∃ R, D = [(L, shF (PW w b c) E x tx q td x tx []), (q, sqO "list" (rwV []) n)] ++ R) ?_ fun r D h => ?_
    · exact spec_run_fr _ (fun ρ τ => she_run w b c ρ τ L it q (rwV []) n _ _) (Oks.cons (fun _ _ => kIE_ok) .nil) fun ρ τ => ⟨rfl, _, rfl⟩
    · obtain ⟨rfl, R, rfl⟩ := h
      exact ⟨_, R, .refl _, [], [0, 0, 0, 0], rfl, rfl, rfl, rfl⟩
  | cons s rest =>
    simp only [List.length_cons] at hb
    have l1 := sh1_len (d := s.1) (y := x)
    refine Spec.drop (P := fun r D => ∃ (t k : Tok) (p' : Nat × Tok), r = .ok .next ∧ ∃ R, D = [(L, shF (PW w b c) E x tx q td (shN (rest.map (·.1)) (sh1 s.1 x)) t (shH (PW w b c) k (sv [p'.1] p'.2))), (q, sqO "list" (rwV (s :: rest)) n)] ++ R) ?_ fun r D h => ?_
    · refine sh_turn (.inl rfl) (i := 0) (d := s.1) (th := s.2) rfl hx (by omega) (tl_hand (hs s (.head _))) fun k' ty' => ?_
      exact sh_mid rest [] (sh1 s.1 x) ty' k' s (fun x hx => hs x (.tail _ hx)) (sh1_good hx) (by omega)
    · obtain ⟨t, k, p', rfl, R, rfl⟩ := h
      exact ⟨_, R, .refl _, [], [t, k, p'.1, p'.2], rfl, rfl, rfl, rfl⟩
end
theorem kSh_ok {w : World} {b c : Bool} {q : Addr} {x : List Nat} {tx : Tok} {row : List (Nat × Tok)} {n : Nat} (hs : ∀ p ∈ row, Hand p.1) (hx : Good x) (hb : x.length + 8 + row.length * 5 ≤ sizeLine) : Cut.Ok (VW (wF w b c)) (kSh q x tx row n) := by
  cases row with
  | nil => exact spec_run (fun ρ τ => sh0_run w b c ρ τ q x tx n) (Oks.cons (fun _ _ => kShl_ok hs hx hb) .nil) fun ρ τ => ⟨[], [tx], rfl, rfl, rfl, rfl⟩
  | cons s rest => exact spec_run (fun ρ τ => sh1_run w b c ρ τ q x tx n s rest) (Oks.cons (fun _ _ => kShl_ok hs hx hb) .nil) fun ρ τ => ⟨[], [τ 68], rfl, rfl, rfl, rfl⟩
end Mine
end
section
open PySem PySem.W PySem.W.X PyProof.Rows PySem.Builtin PySem.Builtin.Str
set_option Elab.async false
set_option maxRecDepth 100000
set_option linter.unusedVariables false
namespace Mine
section
variable (w : World) (b c : Bool) (ρ : Nat → Addr) (τ : Nat → Tok) (L hc Co C it acc g : Addr) (d : Nat) (th : Tok) (gs : List Value) (gn : Nat) (vs : List Value) (m i : Nat) (x : List Nat) (tx : Tok)
theorem ti0_run : Both (runOf (wF w b c) ρ τ 200 (tiZ (PW w b c) L hc Co C it acc g d th gs gn kNew vs m i x tx) ti0_h (tiK it acc g d th gs gn vs m i x tx) (ti0_e (wF w b c)) 11 (tiC (PW w b c) L hc Co C it acc) (tiD hc C it acc g d th gs gn (dictN [] 0) vs m i)) := by
  cases b <;> exact both_of (by kernel_rfl)
theorem ti1_run (k : Tok) (v : Value) : Both (runOf (wF w b c) ρ τ 200 (tiZ (PW w b c) L hc Co C it acc g d th gs gn (kOld k) vs m i x tx) ti1_h (tiK it acc g d th gs gn vs m i x tx) (ti1_e (wF w b c)) 11 (tiC (PW w b c) L hc Co C it acc) (tiD hc C it acc g d th gs gn (dictN (shpE (PW w b c) k v) 1) vs m i)) := by
  cases b <;> exact both_of (by kernel_rfl)
theorem tie_run (cd : Obj) : Both (runOf (wF w b c) ρ τ 200 (tiY hc C acc d th cd vs m) tie_h (tiE it g gs gn) (tie_e (wF w b c)) 11 (tiC (PW w b c) L hc Co C it acc) (tiD hc C it acc g d th gs gn cd vs m gs.length)) := by
  cases b <;> exact both_of (by kernel_rfl)
end
theorem vsO_app : ∀ a b : Sts, vsO (a ++ b) = vsO a ++ vsO b
  | [], _ => rfl
  | p :: a, b => congrArg _ (vsO_app a b)
theorem vsO_get' : ∀ (d : Sts) (p : List Nat × Tok) (r : Sts), (vsO (d ++ p :: r))[d.length]? = some (sv p.1 p.2)
  | [], _, _ => rfl
  | _ :: d, p, r => vsO_get' d p r
theorem vsO_len' : ∀ l : Sts, (vsO l).length = l.length
  | [] => rfl
  | _ :: l => congrArg (· + 1) (vsO_len' l)
noncomputable def Fine (l : Sts) : Prop := (∀ p ∈ l, Good p.1 ∧ p.1.length ≤ 1000) ∧ l.length ≤ 1000
section
variable {w : World} {b c : Bool} {L hc Co C it acc g : Addr} {d : Nat} {th : Tok} {gn : Nat}
theorem ti_mid (hd : Hand d) : ∀ (rest done : Sts) (p : List Nat × Tok) (k : Tok) (v : List Nat × Tok) (ys : Sts) (m : Nat), (∀ p ∈ rest, Good p.1 ∧ p.1.length ≤ 1000) → ys.length + rest.length ≤ 1000 →
    Spec (VW (wF w b c)) none 11 (tiC (PW w b c) L hc Co C it acc) (tiD hc C it acc g d th (vsO (done ++ p :: rest)) gn (dictN (shpE (PW w b c) k (sv v.1 v.2)) 1) (vsO ys) m (done.length + 1))
      fun r D => ∃ (zs : Sts) (k' : Tok) (v' : List Nat × Tok), zs.map (·.1) = rest.map (fun p => sh1 d p.1) ∧ r = .ok .next ∧ D = [(acc, listN (vsO (ys ++ zs)) (m + rest.length)), (C, dictN (shpE (PW w b c) k' (sv v'.1 v'.2)) 1), (hc, cellO (some (sv [d] th)))]
  | [], done, p, k, v, ys, m, _, _ => by
    have e : done.length + 1 = (vsO (done ++ [p])).length := by rw [vsO_len']; simp
    rw [e]
    exact spec_run (fun ρ τ => tie_run w b c ρ τ L hc Co C it acc g d th (vsO (done ++ [p])) gn (vsO ys) m _) (Oks.cons (fun _ _ => kIE_ok) .nil) fun ρ τ => ⟨[], k, v, rfl, rfl, by rw [List.append_nil]; rfl⟩
  | s :: rest, done, p, k, v, ys, m, hs, hb => by
    have e0 : (vsO (done ++ p :: s :: rest))[done.length + 1]? = some (sv s.1 s.2) := by
      have := vsO_get' (done ++ [p]) s rest
      simpa using this
    have hg := hs s (.head _)
    simp only [List.length_cons] at hb
    refine spec_run (fun ρ τ => ti1_run w b c ρ τ L hc Co C it acc g d th (vsO (done ++ p :: s :: rest)) gn (vsO ys) m (done.length + 1) s.1 s.2 k (sv v.1 v.2)) (Oks.cons (fun _ _ => kIN_ok e0) <| .cons (fun _ _ => kSh_ok (row := [(d, th)]) (fun p hp => by
      rw [List.mem_singleton] at hp
      rw [hp]
      exact hd) hg.1 (Nat.le_trans (show s.1.length + 8 + 1 * 5 ≤ 1013 by omega) (by decide))) <| .cons (fun _ _ => kLP_ok (by rw [vsO_len']; exact Nat.le_trans (show ys.length ≤ 1000 by omega) (by decide))) .nil) fun ρ τ => ?_
    have ih := ti_mid hd rest (done ++ [p]) s k s (ys ++ [(sh1 d s.1, τ 1)]) (m + 1) (fun x hx => hs x (.tail _ hx)) (by simp; omega)
    have eA : done ++ [p] ++ s :: rest = done ++ p :: s :: rest := by simp
    have eL : (done ++ [p]).length = done.length + 1 := by simp
    have e3 : vsO (ys ++ [(sh1 d s.1, τ 1)]) = vsO ys ++ [sv (sh1 d s.1) (τ 1)] := vsO_app ys _
    rw [eA, eL, e3] at ih
    refine ih.mono (Nat.le_refl _) fun r D h => ?_
    obtain ⟨zs, k', v', hz, rfl, rfl⟩ := h
    refine ⟨(sh1 d s.1, τ 1) :: zs, k', v', by rw [List.map_cons, List.map_cons, hz], rfl, ?_⟩
    rw [List.append_assoc, show m + 1 + rest.length = m + (s :: rest).length by simp; omega]
    rfl
theorem zipT_any {zs : Sts} {l : List (List Nat)} (h : zs.map (·.1) = l) : ∃ n, zipT l (unl n) = zs := by
  obtain ⟨n, hn⟩ := unl_all (zs.map (·.2))
  refine ⟨n, ?_⟩
  rw [hn, ← h]
  have := zipT_is zs []
  rw [List.append_nil] at this
  exact this
theorem lcX_in (w : World) (b c : Bool) : ∃ elt tg itx ifs gs sc pos, tdIn (PW w b c) = lcX elt tg itx ifs gs sc pos := ⟨_, _, _, _, _, _, _, rfl⟩
theorem kTI_ok (hd : Hand d) {l : Sts} (hl : Fine l) : Cut.Ok (VW (wF w b c)) (kTI (PW w b c) L hc Co C it acc g d th l gn) := by
  obtain ⟨hg, hn⟩ := hl
  have hn' : l.length ≤ sizeLine := Nat.le_trans hn (by decide)
  have st : Spec (VW (wF w b c)) none 11 (tiC (PW w b c) L hc Co C it acc) (tiD hc C it acc g d th (vsO l) gn (dictN [] 0) [] 0 0) fun r D => ∃ (as : List Addr) (ts : List Tok), as.length = 0 ∧ ts.length = 4 ∧ r = .ok .next ∧
      D = zipAO (addrs (tiD hc C it acc g d th (vsO l) gn (dictN [] 0) [] 0 0)) [listN (vsO (zipT (l.map fun p => sh1 d p.1) (unl (hd0 ts)))) l.length, tiPost (PW w b c) l ts, cellO (some (sv [d] th))] := by
    cases l with
    | nil => exact spec_run (fun ρ τ => tie_run w b c ρ τ L hc Co C it acc g d th [] gn [] 0 _) (Oks.cons (fun _ _ => kIE_ok) .nil) fun ρ τ => ⟨[], [0, 0, 0, 0], rfl, rfl, rfl, rfl⟩
    | cons s rest =>
      have hs := hg s (.head _)
      refine spec_run (fun ρ τ => ti0_run w b c ρ τ L hc Co C it acc g d th (vsO (s :: rest)) gn [] 0 0 s.1 s.2) (Oks.cons (fun _ _ => kIN_ok rfl) <| .cons (fun _ _ => kSh_ok (row := [(d, th)]) (fun p hp => by
        rw [List.mem_singleton] at hp
        rw [hp]
        exact hd) hs.1 (Nat.le_trans (show s.1.length + 8 + 1 * 5 ≤ 1013 by omega) (by decide))) <| .cons (fun _ _ => kLP_ok (by decide)) .nil) fun ρ τ => ?_
      simp only [List.length_cons] at hn
      have ih := ti_mid (w := w) (b := b) (c := c) (L := L) (hc := hc) (Co := Co) (C := C) (it := it) (acc := acc) (g := g) (th := th) (gn := gn) hd rest [] s (τ 0) s [(sh1 d s.1, τ 1)] 1 (fun x hx => hg x (.tail _ hx)) (by simp; omega)
      refine ih.mono (Nat.le_refl _) fun r D h => ?_
      obtain ⟨zs, k', v', hz, rfl, rfl⟩ := h
      obtain ⟨n, hn⟩ := zipT_any (zs := (sh1 d s.1, τ 1) :: zs) (l := (s :: rest).map fun p => sh1 d p.1) (by rw [List.map_cons, List.map_cons, hz])
      obtain ⟨n2, hn2⟩ := unl_all v'.1
      refine ⟨[], [n, k', n2, v'.2], rfl, rfl, rfl, ?_⟩
      show _ = [(acc, listN (vsO (zipT ((s :: rest).map fun p => sh1 d p.1) (unl n))) (s :: rest).length), (C, dictN (shpE (PW w b c) k' (sv (unl n2) v'.2)) 1), (hc, cellO (some (sv [d] th)))]
      rw [hn, hn2, show 1 + rest.length = (s :: rest).length by simp; omega]
      rfl
  have cs := comp_start (w := w) (b := b) (c := c) (fr := none) (acc := .ref acc) (env := tiEnv (PW w b c) L hc Co C) (T := "list_iterator") (it := it) (fs := [.ref g, .int (.ofNat 0) 0]) (k := 10) (R := [(acc, listN [] 0), (C, dictN [] 0), (hc, cellO (some (sv [d] th))), (g, sqO "list" (vsO l) gn)]) (.inl rfl)
    ((st.mono (Nat.le_refl _) fun r D h => h).ord (List.perm_middle (l₁ := [_, _, _])).symm)
  refine (cs.ord (List.perm_middle (l₁ := [_, _, _]))).mono (Nat.le_refl _) fun r D h => ?_
  obtain ⟨as, ts, h1, h2, h3, h4⟩ := h
  refine ⟨as, ts, h1, h2, h3, ?_⟩
  rw [h4]
  match as, h1 with
  | [], _ => rfl
end
end Mine
end
section
open PySem PySem.W PySem.W.X PyProof.Rows PySem.Builtin PySem.Builtin.Str
set_option Elab.async false
set_option maxRecDepth 100000
set_option linter.unusedVariables false
namespace Mine
section
variable (w : World) (b c : Bool) (ρ : Nat → Addr) (τ : Nat → Tok) (L hc C it acc g : Addr) (d : Nat) (th : Tok) (gs : List Value) (gn : Nat) (vs : List Value) (m i : Nat) (a : Addr) (n : Nat)
theorem to0n_run : Both (runOf (wF w b c) ρ τ 200 (toZ (PW w b c) L hc C it acc g d th gs gn kNew vs m i a []) to0n_h (toK (PW w b c) L hc C it acc g d th gs gn vs m i a [] n) (to0n_e (wF w b c)) 14 (toC (PW w b c) L hc C it acc) (toD hc C it acc g d th gs gn (dictN [] 0) vs m i ++ [(a, listN (vsO []) n)])) := by cases b <;> exact both_of (by kernel_rfl)
theorem to0c_run (y : List Nat × Tok) (l : Sts) : Both (runOf (wF w b c) ρ τ 200 (toZ (PW w b c) L hc C it acc g d th gs gn kNew vs m i a (y :: l)) to0c_h (toK (PW w b c) L hc C it acc g d th gs gn vs m i a (y :: l) n) (to0c_e (wF w b c)) 14 (toC (PW w b c) L hc C it acc) (toD hc C it acc g d th gs gn (dictN [] 0) vs m i ++ [(a, listN (vsO (y :: l)) n)])) := by cases b <;> exact both_of (by kernel_rfl)
theorem to1n_run (k : Tok) (v : Value) : Both (runOf (wF w b c) ρ τ 200 (toZ (PW w b c) L hc C it acc g d th gs gn (kOld k) vs m i a []) to1n_h (toK (PW w b c) L hc C it acc g d th gs gn vs m i a [] n) (to1n_e (wF w b c)) 14 (toC (PW w b c) L hc C it acc) (toD hc C it acc g d th gs gn (dictN (gapE (PW w b c) k v) 1) vs m i ++ [(a, listN (vsO []) n)])) := by cases b <;> exact both_of (by kernel_rfl)
theorem to1c_run (k : Tok) (v : Value) (y : List Nat × Tok) (l : Sts) : Both (runOf (wF w b c) ρ τ 200 (toZ (PW w b c) L hc C it acc g d th gs gn (kOld k) vs m i a (y :: l)) to1c_h (toK (PW w b c) L hc C it acc g d th gs gn vs m i a (y :: l) n) (to1c_e (wF w b c)) 14 (toC (PW w b c) L hc C it acc) (toD hc C it acc g d th gs gn (dictN (gapE (PW w b c) k v) 1) vs m i ++ [(a, listN (vsO (y :: l)) n)])) := by cases b <;> exact both_of (by kernel_rfl)
theorem toe_run (cd : Obj) : Both (runOf (wF w b c) ρ τ 200 (tiY hc C acc d th cd vs m) toe_h (tiE it g gs gn) (toe_e (wF w b c)) 14 (toC (PW w b c) L hc C it acc) (toD hc C it acc g d th gs gn cd vs m gs.length)) := by
  cases b <;> exact both_of (by kernel_rfl)
end
section
variable {w : World} {b c : Bool} {L hc C it acc g : Addr} {d : Nat} {th : Tok} {gn : Nat} {P : Result → Dyn → Prop}
theorem to_turn (hd : Hand d) {gs vs : List Value} {m i : Nat} {cd : Obj} {s : Gap} (R : Dyn) (hcd : cd = dictN [] 0 ∨ ∃ k v, cd = dictN (gapE (PW w b c) k v) 1) (hs : Fine s.2.1) (hv : gs[i]? = some (.ref s.1)) (hm : vs.length ≤ sizeLine)
    (next : ∀ (k : Tok) (N : Gap), N.2.1.map (·.1) = s.2.1.map (fun p => sh1 d p.1) → Spec (VW (wF w b c)) none 14 (toC (PW w b c) L hc C it acc) (toD hc C it acc g d th gs gn (dictN (gapE (PW w b c) k (.ref s.1)) 1) (vs ++ [.ref N.1]) (m + 1) (i + 1) ++ ((N.1, listN (vsO N.2.1) N.2.2) :: R)) P) :
    Spec (VW (wF w b c)) none 14 (toC (PW w b c) L hc C it acc) (toD hc C it acc g d th gs gn cd vs m i ++ ((s.1, listN (vsO s.2.1) s.2.2) :: R)) P := by
  obtain ⟨a, l, n⟩ := s
  have ks : Oks (wF w b c) (toK (PW w b c) L hc C it acc g d th gs gn vs m i a l n) := .cons (fun _ _ => kIN_ok hv) <| .cons (fun _ _ => kTI_ok hd hs) <| .cons (fun _ _ => kLP_ok hm) .nil
  have fin : ∀ k t, Spec (VW (wF w b c)) none 14 (toC (PW w b c) L hc C it acc) _ P := fun k (t : Nat × Tok) => next k (t.1, zipT (l.map fun p => sh1 d p.1) (unl t.2), l.length) (zipT_map _ _)
  cases l with
  | nil =>
    rcases hcd with rfl | ⟨k, v, rfl⟩
    · exact spec_run_fr R (fun ρ τ => to0n_run w b c ρ τ L hc C it acc g d th gs gn vs m i a n) ks fun ρ τ => fin (τ 0) (ρ 1, τ 1)
    · exact spec_run_fr R (fun ρ τ => to1n_run w b c ρ τ L hc C it acc g d th gs gn vs m i a n k v) ks fun ρ τ => fin k (ρ 1, τ 1)
  | cons y l =>
    rcases hcd with rfl | ⟨k, v, rfl⟩
    · exact spec_run_fr R (fun ρ τ => to0c_run w b c ρ τ L hc C it acc g d th gs gn vs m i a n y l) ks fun ρ τ => fin (τ 0) (ρ 1, τ 1)
    · exact spec_run_fr R (fun ρ τ => to1c_run w b c ρ τ L hc C it acc g d th gs gn vs m i a n k v y l) ks fun ρ τ => fin k (ρ 1, τ 1)
theorem to_mid (hd : Hand d) : ∀ (rest done : List Gap) (p : Gap) (k : Tok) (v : Addr) (N : List Gap) (m : Nat), (∀ g ∈ rest, Fine g.2.1) → N.length + rest.length ≤ 1000 →
    Spec (VW (wF w b c)) none 14 (toC (PW w b c) L hc C it acc) (toD hc C it acc g d th (gR (done ++ p :: rest)) gn (dictN (gapE (PW w b c) k (.ref v)) 1) (gR N) m (done.length + 1) ++ (gD rest ++ gD N))
      fun r D => ∃ (N' : List Gap) (k' : Tok) (v' : Addr), ct N' = cmap d (ct rest) ∧ r = .ok .next ∧ D = [(acc, listN (gR (N ++ N')) (m + rest.length)), (C, dictN (gapE (PW w b c) k' (.ref v')) 1), (hc, cellO (some (sv [d] th)))] ++ gD (N ++ N')
  | [], done, p, k, v, N, m, _, _ => by
    have e : done.length + 1 = (gR (done ++ [p])).length := by rw [gR_len]; simp
    rw [e]
    exact spec_run_fr (gD N) (fun ρ τ => toe_run w b c ρ τ L hc C it acc g d th (gR (done ++ [p])) gn (gR N) m _) (Oks.cons (fun _ _ => kIE_ok) .nil) fun ρ τ => ⟨[], k, v, rfl, rfl, by rw [List.append_nil]; rfl⟩
  | s :: rest, done, p, k, v, N, m, hs, hb => by
    have e0 : (gR (done ++ p :: s :: rest))[done.length + 1]? = some (.ref s.1) := by
      have := gR_get (done ++ [p]) s rest
      simpa using this
    simp only [List.length_cons] at hb
    refine to_turn hd (gD rest ++ gD N) (.inr ⟨k, _, rfl⟩) (hs s (.head _)) e0 (by rw [gR_len]; exact Nat.le_trans (show N.length ≤ 1000 by omega) (by decide)) fun k' M hM => ?_
    have ih := to_mid hd rest (done ++ [p]) s k' s.1 (N ++ [M]) (m + 1) (fun x hx => hs x (.tail _ hx)) (by simp; omega)
    have eA : done ++ [p] ++ s :: rest = done ++ p :: s :: rest := by simp
    have eL : (done ++ [p]).length = done.length + 1 := by simp
    have e3 : gR (N ++ [M]) = gR N ++ [.ref M.1] := gR_app N _
    have e4 : gD (N ++ [M]) = gD N ++ [(M.1, listN (vsO M.2.1) M.2.2)] := gD_app N _
    rw [eA, eL, e3, e4] at ih
    have pm : (toD hc C it acc g d th (gR (done ++ p :: s :: rest)) gn (dictN (gapE (PW w b c) k' (.ref s.1)) 1) (gR N ++ [.ref M.1]) (m + 1) (done.length + 1 + 1) ++ ((M.1, listN (vsO M.2.1) M.2.2) :: (gD rest ++ gD N))).Perm
        (toD hc C it acc g d th (gR (done ++ p :: s :: rest)) gn (dictN (gapE (PW w b c) k' (.ref s.1)) 1) (gR N ++ [.ref M.1]) (m + 1) (done.length + 1 + 1) ++ (gD rest ++ (gD N ++ [(M.1, listN (vsO M.2.1) M.2.2)]))) := by
      refine List.Perm.append_left _ ?_
      rw [← List.append_assoc]
      exact List.perm_append_comm (l₁ := [_])
    refine (ih.ord pm).mono (Nat.le_refl _) fun r D h => ?_
    obtain ⟨N', k', v', hN, rfl, rfl⟩ := h
    refine ⟨M :: N', k', v', ?_, rfl, ?_⟩
    · show M.2.1.map (·.1) :: ct N' = (s.2.1.map (·.1)).map (sh1 d) :: cmap d (ct rest)
      rw [hN, hM, List.map_map]
      rfl
    · rw [List.append_assoc, show m + 1 + rest.length = m + (s :: rest).length by simp; omega]
      rfl
theorem kTO_ok (hd : Hand d) {G : List Gap} (hG : G ≠ []) (hl : ∀ g ∈ G, Fine g.2.1) (hn : G.length ≤ 1000) : Cut.Ok (VW (wF w b c)) (kTO (PW w b c) L hc C it acc g d th G gn) := by
  cases G with
  | nil => exact absurd rfl hG
  | cons s rest =>
    simp only [List.length_cons] at hn
    have st : Spec (VW (wF w b c)) none 14 (toC (PW w b c) L hc C it acc) (toD hc C it acc g d th (gR (s :: rest)) gn (dictN [] 0) [] 0 0 ++ gD (s :: rest)) fun r D => ∃ (as : List Addr) (ts : List Tok), as.length = 0 ∧ ts.length = 3 ∧ r = .ok .next ∧
        D = [(acc, listN (gR (mkG (cmap d (ct (s :: rest))) (unl (hd0 ts)))) (s :: rest).length), (C, dictN (gapE (PW w b c) (hd1 ts) (.ref (hd2 ts))) 1), (hc, cellO (some (sv [d] th)))] ++ gD (mkG (cmap d (ct (s :: rest))) (unl (hd0 ts))) := by
      refine to_turn hd (gD rest) (.inl rfl) (hl s (.head _)) rfl (by decide) fun k' M hM => ?_
      have ih := to_mid (w := w) (b := b) (c := c) (L := L) (hc := hc) (C := C) (it := it) (acc := acc) (g := g) (th := th) (gn := gn) hd rest [] s k' s.1 [M] 1 (fun x hx => hl x (.tail _ hx)) (by simp; omega)
      have pm : (toD hc C it acc g d th (gR (s :: rest)) gn (dictN (gapE (PW w b c) k' (.ref s.1)) 1) [.ref M.1] 1 1 ++ ((M.1, listN (vsO M.2.1) M.2.2) :: gD rest)).Perm
          (toD hc C it acc g d th (gR (s :: rest)) gn (dictN (gapE (PW w b c) k' (.ref s.1)) 1) [.ref M.1] 1 1 ++ (gD rest ++ [(M.1, listN (vsO M.2.1) M.2.2)])) := List.Perm.append_left _ (List.perm_append_comm (l₁ := [_]))
      refine (ih.ord pm).mono (Nat.le_refl _) fun r D h => ?_
      obtain ⟨N', k', v', hN, rfl, rfl⟩ := h
      have hc : ct (M :: N') = cmap d (ct (s :: rest)) := by
        show M.2.1.map (·.1) :: ct N' = (s.2.1.map (·.1)).map (sh1 d) :: cmap d (ct rest)
        rw [hN, hM, List.map_map]
        rfl
      obtain ⟨ns, hns⟩ := mkG_all (M :: N')
      obtain ⟨u, hu⟩ := unl_all ns
      refine ⟨[], [u, k', v'], rfl, rfl, rfl, ?_⟩
      have e : mkG (cmap d (ct (s :: rest))) (unl u) = M :: N' := by rw [hu, ← hc, hns]
      show _ = [(acc, listN (gR (mkG (cmap d (ct (s :: rest))) (unl u))) (s :: rest).length), (C, dictN (gapE (PW w b c) k' (.ref v')) 1), _] ++ gD (mkG (cmap d (ct (s :: rest))) (unl u))
      rw [e, show 1 + rest.length = (s :: rest).length by simp; omega]
      rfl
    have cs := comp_start (w := w) (b := b) (c := c) (fr := none) (acc := .ref acc) (env := toEnv (PW w b c) L hc C) (T := "list_iterator") (it := it) (fs := [.ref g, .int (.ofNat 0) 0]) (k := 13) (R := [(acc, listN [] 0), (C, dictN [] 0), (hc, cellO (some (sv [d] th))), (g, sqO "list" (gR (s :: rest)) gn)] ++ gD (s :: rest)) (.inl rfl)
      (st.ord (List.perm_middle (l₁ := [_, _, _])).symm)
    refine (cs.ord (List.perm_middle (l₁ := [_, _, _]))).mono (Nat.le_refl _) fun r D h => ?_
    obtain ⟨as, ts, h1, h2, h3, h4⟩ := h
    refine ⟨as, ts, h1, h2, h3, ?_⟩
    rw [h4]
    match as, h1 with
    | [], _ => rfl
end
end Mine
end
section
open PySem PySem.W PySem.W.X PyProof.Rows PySem.Builtin PySem.Builtin.Str
set_option Elab.async false
set_option maxRecDepth 100000
set_option linter.unusedVariables false
namespace Mine
section
variable (w : World) (b c : Bool) (ρ : Nat → Addr) (τ : Nat → Tok) (E : Nat → Tok) (L hc it s q g W : Addr) (x : List Nat) (tx : Tok) (gs ws : List Value) (sn : Nat) (kw : Tok) (i : Nat) (a : Addr)
theorem tq0_run : Both (runOf (wF w b c) ρ τ 200 (tqZ (PW w b c) E L hc it s q g x tx gs ws sn kw kNew i a) tq0_h (tqK it s W gs ws sn i a) (tq0_e (wF w b c)) 6 (tqC (PW w b c) L hc it) (tqD (PW w b c) E L it s q g x tx gs sn kw [] W ws i)) := by
  cases b <;> exact both_of (by kernel_rfl)
theorem tq1_run (k : Tok) (v : Value) : Both (runOf (wF w b c) ρ τ 200 (tqZ (PW w b c) E L hc it s q g x tx gs ws sn kw (kOld k) i a) tq1_h (tqK it s W gs ws sn i a) (tq1_e (wF w b c)) 6 (tqC (PW w b c) L hc it) (tqD (PW w b c) E L it s q g x tx gs sn kw (gapE (PW w b c) k v) W ws i)) := by
  cases b <;> exact both_of (by kernel_rfl)
theorem tqe_run (h : List DictEntry) : Both (runOf (wF w b c) ρ τ 200 (tqY (PW w b c) E L q g W x tx ws kw h) tqe_h (tqE it s gs sn) (tqe_e (wF w b c)) 6 (tqC (PW w b c) L hc it) (tqD (PW w b c) E L it s q g x tx gs sn kw h W ws gs.length)) := by
  cases b <;> exact both_of (by kernel_rfl)
end
theorem qus_cons (g : Gap) (G : List Gap) : qus (g :: G) = [[34]] :: [[34]] :: qus G := rfl
section
variable {w : World} {b c : Bool} {E : Nat → Tok} {L hc it s q g : Addr} {x : List Nat} {tx : Tok} {sn : Nat} {kw : Tok} {P : Result → Dyn → Prop}
theorem tq_turn {gs ws : List Value} {i : Nat} {a W : Addr} {h : List DictEntry} (R : Dyn) (hh : h = [] ∨ ∃ k v, h = gapE (PW w b c) k v) (hv : gs[i]? = some (.ref a)) (hm : ws.length + 3 ≤ sizeLine)
    (next : ∀ (k : Tok) (W' : Addr) (X Y : Gap), X.2.1.map (·.1) = [[34]] → Y.2.1.map (·.1) = [[34]] → Spec (VW (wF w b c)) none 6 (tqC (PW w b c) L hc it) (tqD (PW w b c) E L it s q g x tx gs sn kw (gapE (PW w b c) k (.ref a)) W' (ws ++ [.ref X.1, .ref Y.1, .ref a]) (i + 1) ++ (gD [X, Y] ++ R)) P) :
    Spec (VW (wF w b c)) none 6 (tqC (PW w b c) L hc it) (tqD (PW w b c) E L it s q g x tx gs sn kw h W ws i ++ R) P := by
  have ks : Oks (wF w b c) (tqK it s W gs ws sn i a) := .cons (fun _ _ => kIN_ok hv) <| .cons (fun _ _ => kLA_ok hm) .nil
  rcases hh with rfl | ⟨k, v, rfl⟩
  · exact spec_run_fr R (fun ρ τ => tq0_run w b c ρ τ E L hc it s q g W x tx gs ws sn kw i a) ks fun ρ τ => next (τ 0) (ρ 3) (ρ 0, [([34], τ 1)], 0) (ρ 1, [([34], τ 2)], 0) rfl rfl
  · exact spec_run_fr R (fun ρ τ => tq1_run w b c ρ τ E L hc it s q g W x tx gs ws sn kw i a k v) ks fun ρ τ => next k (ρ 3) (ρ 0, [([34], τ 1)], 0) (ρ 1, [([34], τ 2)], 0) rfl rfl
theorem tq_mid : ∀ (rest done : List Gap) (p : Gap) (k : Tok) (v W : Addr) (ws : List Value) (N : List Gap), ws.length + 3 * rest.length ≤ 10000 →
    Spec (VW (wF w b c)) none 6 (tqC (PW w b c) L hc it) (tqD (PW w b c) E L it s q g x tx (gR (done ++ p :: rest)) sn kw (gapE (PW w b c) k (.ref v)) W ws (done.length + 1) ++ gD N)
      fun r D => ∃ (W' : Addr) (N' : List Gap) (k' : Tok) (v' : Addr), ct N' = qus rest ∧ r = .ok .next ∧ D = [(L, tdF (PW w b c) E x tx q g (wdE (PW w b c) kw (.ref W') ++ gapE (PW w b c) k' (.ref v'))), (W', listN (ws ++ gR (inter rest N')) 0)] ++ gD (N ++ N')
  | [], done, p, k, v, W, ws, N, _ => by
    have e : done.length + 1 = (gR (done ++ [p])).length := by rw [gR_len]; simp
    rw [e]
    exact spec_run_fr (gD N) (fun ρ τ => tqe_run w b c ρ τ E L hc it s q g W x tx (gR (done ++ [p])) ws sn kw _) (Oks.cons (fun _ _ => kIE_ok) .nil) fun ρ τ => ⟨W, [], k, v, rfl, rfl, by rw [List.append_nil]; show _ = [_, (W, listN (ws ++ []) 0)] ++ _; rw [List.append_nil]; rfl⟩
  | t :: rest, done, p, k, v, W, ws, N, hb => by
    have e0 : (gR (done ++ p :: t :: rest))[done.length + 1]? = some (.ref t.1) := by
      have := gR_get (done ++ [p]) t rest
      simpa using this
    simp only [List.length_cons] at hb
    refine tq_turn (gD N) (.inr ⟨k, _, rfl⟩) e0 (Nat.le_trans (show ws.length + 3 ≤ 10000 by omega) (by decide)) fun k' W' X Y hX hY => ?_
    have ih := tq_mid rest (done ++ [p]) t k' t.1 W' (ws ++ [.ref X.1, .ref Y.1, .ref t.1]) (N ++ [X, Y]) (by simp; omega)
    have eA : done ++ [p] ++ t :: rest = done ++ p :: t :: rest := by simp
    have eL : (done ++ [p]).length = done.length + 1 := by simp
    rw [eA, eL] at ih
    have pm : (tqD (PW w b c) E L it s q g x tx (gR (done ++ p :: t :: rest)) sn kw (gapE (PW w b c) k' (.ref t.1)) W' (ws ++ [.ref X.1, .ref Y.1, .ref t.1]) (done.length + 1 + 1) ++ (gD [X, Y] ++ gD N)).Perm
        (tqD (PW w b c) E L it s q g x tx (gR (done ++ p :: t :: rest)) sn kw (gapE (PW w b c) k' (.ref t.1)) W' (ws ++ [.ref X.1, .ref Y.1, .ref t.1]) (done.length + 1 + 1) ++ gD (N ++ [X, Y])) := by
      rw [gD_app]
      exact List.Perm.append_left _ List.perm_append_comm
    refine (ih.ord pm).mono (Nat.le_refl _) fun r D h => ?_
    obtain ⟨W'', N', k'', v', hN, rfl, rfl⟩ := h
    refine ⟨W'', X :: Y :: N', k'', v', ?_, rfl, ?_⟩
    · show X.2.1.map (·.1) :: Y.2.1.map (·.1) :: ct N' = _
      rw [hX, hY, hN, qus_cons]
    · have e1 : ws ++ gR (inter (t :: rest) (X :: Y :: N')) = ws ++ [.ref X.1, .ref Y.1, .ref t.1] ++ gR (inter rest N') := by
        rw [List.append_assoc]
        rfl
      rw [e1, List.append_assoc N]
      rfl
theorem kTQ_ok {G : List Gap} {ws : List Value} {W : Addr} {h : List DictEntry} (hh : h = [] ∨ ∃ k v, h = gapE (PW w b c) k v) (hG : G ≠ []) (hn : ws.length + 3 * G.length ≤ 10000) : Cut.Ok (VW (wF w b c)) (kTQ (PW w b c) E L hc it s q g W x tx G ws sn kw h) := by
  cases G with
  | nil => exact absurd rfl hG
  | cons t rest =>
    simp only [List.length_cons] at hn
    have sp : Spec (VW (wF w b c)) none 6 (tqC (PW w b c) L hc it) (tqD (PW w b c) E L it s q g x tx (gR (t :: rest)) sn kw h W ws 0 ++ [])
        fun r D => ∃ (W' : Addr) (N' : List Gap) (k' : Tok) (v' : Addr), ct N' = qus (t :: rest) ∧ r = .ok .next ∧ D = [(L, tdF (PW w b c) E x tx q g (wdE (PW w b c) kw (.ref W') ++ gapE (PW w b c) k' (.ref v'))), (W', listN (ws ++ gR (inter (t :: rest) N')) 0)] ++ gD N' := by
      refine tq_turn (a := t.1) [] hh rfl (Nat.le_trans (show ws.length + 3 ≤ 10000 by omega) (by decide)) fun k' W' X Y hX hY => ?_
      have ih := tq_mid (w := w) (b := b) (c := c) (E := E) (L := L) (hc := hc) (it := it) (s := s) (q := q) (g := g) (x := x) (tx := tx) (sn := sn) (kw := kw) rest [] t k' t.1 W' (ws ++ [.ref X.1, .ref Y.1, .ref t.1]) [X, Y] (by simp; omega)
      rw [List.append_nil]
      refine ih.mono (Nat.le_refl _) fun r D h => ?_
      obtain ⟨W'', N', k'', v', hN, rfl, rfl⟩ := h
      refine ⟨W'', X :: Y :: N', k'', v', ?_, rfl, ?_⟩
      · show X.2.1.map (·.1) :: Y.2.1.map (·.1) :: ct N' = _
        rw [hX, hY, hN, qus_cons]
      · have e1 : ws ++ gR (inter (t :: rest) (X :: Y :: N')) = ws ++ [.ref X.1, .ref Y.1, .ref t.1] ++ gR (inter rest N') := by
          rw [List.append_assoc]
          rfl
        rw [e1]
        rfl
    rw [List.append_nil] at sp
    refine sp.mono (Nat.le_refl _) fun r D h => ?_
    obtain ⟨W', N', k', v', hN, rfl, rfl⟩ := h
    obtain ⟨ns, hns⟩ := mkG_all N'
    obtain ⟨u, hu⟩ := unl_all ns
    have e : mkG (qus (t :: rest)) (unl u) = N' := by rw [hu, ← hN, hns]
    refine ⟨[W'], [u, k', v'], rfl, rfl, rfl, ?_⟩
    show _ = [(L, tdF (PW w b c) E x tx q g (wdE (PW w b c) kw (.ref W') ++ gapE (PW w b c) k' (.ref v'))), (W', listN (ws ++ gR (inter (t :: rest) (mkG (qus (t :: rest)) (unl u)))) 0)] ++ gD (mkG (qus (t :: rest)) (unl u))
    rw [e]
end
end Mine
end
section
open PySem PySem.W PySem.W.X PyProof.Rows PySem.Builtin PySem.Builtin.Str
set_option Elab.async false
set_option maxRecDepth 100000
set_option linter.unusedVariables false
namespace Mine
section
variable (w : World) (b c : Bool) (ρ : Nat → Addr) (τ : Nat → Tok) (E : Nat → Tok) (L hc it q : Addr) (x : List Nat) (tx : Tok) (rs : List Value) (rn : Nat) (ov : Option Value) (g : Addr) (p : Gap) (G : List Gap) (gn i d : Nat) (th : Tok) (k1 k2 : Tok) (v1 v2 : Value)
theorem tlq0_run : Both (runOf (wF w b c) ρ τ 300 (tlZq (PW w b c) E L hc it q x tx rs rn (fun τ => τ 2) p G i th) tlq0_h (tlKq (PW w b c) E L hc it q x tx rs rn [] (fun τ => τ 2) g p G gn i th) (tlq0_e (wF w b c)) 16 (tlC (PW w b c) L hc it) (tzD (PW w b c) E L hc it q x tx rs rn [] ov g (p :: G) gn i)) := by cases b <;> exact both_of (by kernel_rfl)
theorem tle0_run : Both (runOf (wF w b c) ρ τ 300 (tlZe (PW w b c) E L hc it q x tx rs rn [] G i d th) tle0_h (tlKe (PW w b c) L hc it q rs rn g G gn i d th) (tle0_e (wF w b c)) 16 (tlC (PW w b c) L hc it) (tzD (PW w b c) E L hc it q x tx rs rn [] ov g G gn i)) := by cases b <;> exact both_of (by kernel_rfl)
theorem tlq1_run : Both (runOf (wF w b c) ρ τ 300 (tlZq (PW w b c) E L hc it q x tx rs rn (fun _ => k1) p G i th) tlq1_h (tlKq (PW w b c) E L hc it q x tx rs rn (gapE (PW w b c) k2 v2) (fun _ => k1) g p G gn i th) (tlq1_e (wF w b c)) 16 (tlC (PW w b c) L hc it) (tzD (PW w b c) E L hc it q x tx rs rn (wdE (PW w b c) k1 v1 ++ gapE (PW w b c) k2 v2) ov g (p :: G) gn i)) := by cases b <;> exact both_of (by kernel_rfl)
theorem tle1_run : Both (runOf (wF w b c) ρ τ 300 (tlZe (PW w b c) E L hc it q x tx rs rn (wdE (PW w b c) k1 v1 ++ gapE (PW w b c) k2 v2) G i d th) tle1_h (tlKe (PW w b c) L hc it q rs rn g G gn i d th) (tle1_e (wF w b c)) 16 (tlC (PW w b c) L hc it) (tzD (PW w b c) E L hc it q x tx rs rn (wdE (PW w b c) k1 v1 ++ gapE (PW w b c) k2 v2) ov g G gn i)) := by cases b <;> exact both_of (by kernel_rfl)
theorem tlx_run (h : List DictEntry) : Both (runOf (wF w b c) ρ τ 300 (tlZx (PW w b c) E L q x tx rs rn h g G gn) tlx_h (tlKx it q rs rn) (tlx_e (wF w b c)) 16 (tlC (PW w b c) L hc it) (tzD (PW w b c) E L hc it q x tx rs rn h ov g G gn rs.length)) := by cases b <;> exact both_of (by kernel_rfl)
end
end Mine
end
section
open PySem PySem.W PySem.W.X PyProof.Rows PySem.Builtin PySem.Builtin.Str
set_option Elab.async false
set_option maxRecDepth 100000
set_option linter.unusedVariables false
namespace Mine
theorem inter_is : ∀ (G N : List Gap), ct N = qus G → ct (inter G N) = ((ct G).flatMap fun g => [[[34]], [[34]], g]) ∧ (inter G N).Perm (G ++ N)
  | [], [], _ => ⟨rfl, .refl _⟩
  | [], _ :: _, h => by cases h
  | g :: G, [], h => by rw [qus_cons] at h; cases h
  | g :: G, [x], h => by
    have := congrArg List.length h
    rw [qus_cons] at this
    simp [ct] at this
  | g :: G, x :: y :: N, h => by
    rw [qus_cons] at h
    have h : x.2.1.map (·.1) :: y.2.1.map (·.1) :: ct N = [[34]] :: [[34]] :: qus G := h
    simp only [List.cons.injEq] at h
    obtain ⟨hx, hy, hn⟩ := h
    obtain ⟨e, p⟩ := inter_is G N hn
    constructor
    · show x.2.1.map (·.1) :: y.2.1.map (·.1) :: g.2.1.map (·.1) :: ct (inter G N) = [[34]] :: [[34]] :: g.2.1.map (·.1) :: _
      rw [hx, hy, e]
      rfl
    · show (x :: y :: g :: inter G N).Perm (g :: (G ++ x :: y :: N))
      have p1 : (x :: y :: g :: inter G N).Perm (g :: x :: y :: inter G N) := by
        refine List.Perm.trans (.cons _ (.swap ..)) (.swap ..)
      refine p1.trans (.cons _ ?_)
      have p2 : (G ++ x :: y :: N).Perm (x :: y :: (G ++ N)) := List.perm_middle.trans (.cons _ List.perm_middle)
      exact (List.Perm.cons _ (.cons _ p)).trans p2.symm
structure Bd (j : Nat) (c : List (List (List Nat))) : Prop where
  fine : ∀ l ∈ c, (∀ y ∈ l, Good y ∧ y.length ≤ 1 + 5 * j) ∧ l.length ≤ 7
  two : 2 ≤ c.length
  few : c.length ≤ 2 * 3 ^ j
theorem Bd.step {j : Nat} {c : List (List (List Nat))} (h : Bd j c) (d : Nat) : Bd (j + 1) (tell1 d c) := by
  obtain ⟨hf, h2, hn⟩ := h
  have e3 : 3 ^ (j + 1) = 3 * 3 ^ j := by rw [Nat.pow_succ, Nat.mul_comm]
  unfold tell1
  split
  · match c, h2 with
    | a :: r, h2 =>
      have hlen : (tellq (a :: r)).length = 3 + 3 * r.length := by
        have : ∀ r : List (List (List Nat)), (r.flatMap fun g => [[[34]], [[34]], g]).length = 3 * r.length := fun r => by
          induction r with
          | nil => rfl
          | cons g r ih => rw [List.flatMap_cons, List.length_append, ih]; simp; omega
        show ([] :: a :: (r.flatMap fun g => [[[34]], [[34]], g]) ++ [[]]).length = _
        simp only [List.length_append, List.length_cons, List.length_nil, this]
        omega
      have q34 : (∀ y ∈ [[34]], Good y ∧ y.length ≤ 1 + 5 * (j + 1)) ∧ ([[34]] : List (List Nat)).length ≤ 7 := by
        constructor
        · intro y hy
          rw [List.mem_singleton] at hy
          subst hy
          exact ⟨.inr ⟨34, by decide, rfl⟩, by simp⟩
        · decide
      have nil : (∀ y ∈ ([] : List (List Nat)), Good y ∧ y.length ≤ 1 + 5 * (j + 1)) ∧ ([] : List (List Nat)).length ≤ 7 := by
        constructor
        · intro y hy
          cases hy
        · decide
      have old : ∀ l ∈ a :: r, (∀ y ∈ l, Good y ∧ y.length ≤ 1 + 5 * (j + 1)) ∧ l.length ≤ 7 := fun l hl => ⟨fun y hy => ⟨((hf l hl).1 y hy).1, by have := ((hf l hl).1 y hy).2; omega⟩, (hf l hl).2⟩
      refine ⟨fun l hl => ?_, by rw [hlen]; omega, by rw [hlen, e3]; simp only [List.length_cons] at hn; omega⟩
      have hl : l ∈ [] :: a :: (r.flatMap fun g => [[[34]], [[34]], g]) ++ [[]] := hl
      simp only [List.cons_append, List.mem_cons, List.mem_append, List.mem_flatMap, List.not_mem_nil, or_false] at hl
      rcases hl with rfl | rfl | ⟨g, hg, rfl | rfl | rfl⟩ | rfl
      · exact nil
      · exact old _ (.head _)
      · exact q34
      · exact q34
      · exact old _ (.tail _ hg)
      · exact nil
  · refine ⟨fun l hl => ?_, by unfold cmap; rw [List.length_map]; exact h2, by unfold cmap; rw [List.length_map, e3]; omega⟩
    unfold cmap at hl
    obtain ⟨l', hl', rfl⟩ := List.mem_map.mp hl
    refine ⟨fun y hy => ?_, by rw [List.length_map]; exact (hf l' hl').2⟩
    obtain ⟨y', hy', rfl⟩ := List.mem_map.mp hy
    have := sh1_len (d := d) (y := y')
    have h0 := (hf l' hl').1 y' hy'
    exact ⟨sh1_good h0.1, by omega⟩
theorem Bd.gap {j : Nat} {G : List Gap} (h : Bd j (ct G)) (hj : j ≤ 4) : ∀ g ∈ G, Fine g.2.1 := fun g hg => by
  have := h.fine (g.2.1.map (·.1)) (List.mem_map.mpr ⟨g, hg, rfl⟩)
  refine ⟨fun p hp => ?_, by have := this.2; rw [List.length_map] at this; omega⟩
  have := this.1 p.1 (List.mem_map.mpr ⟨p, hp, rfl⟩)
  exact ⟨this.1, by omega⟩
theorem Bd.lenG {j : Nat} {G : List Gap} (h : Bd j (ct G)) (hj : j ≤ 4) : G.length ≤ 162 := by
  have h1 := h.few
  have e : (ct G).length = G.length := List.length_map ..
  rw [e] at h1
  have : 3 ^ j ≤ 3 ^ 4 := Nat.pow_le_pow_right (by decide) hj
  omega
noncomputable def HF (P : Params) : Bool → List DictEntry → Prop
  | false, h => h = []
  | true, h => ∃ k1 a1 k2 a2, h = wdE P k1 (.ref a1) ++ gapE P k2 (.ref a2)
section
variable {w : World} {b c : Bool} {E : Nat → Tok} {L hc it q : Addr} {x : List Nat} {tx : Tok} {rn : Nat} {P : Result → Dyn → Prop}
theorem tl_turn {rs : List Value} {h : List DictEntry} {hq : Bool} {ov : Option Value} {g : Addr} {G : List Gap} {gn i d j : Nat} {th : Tok} (hd : Hand d) (hh : HF (PW w b c) hq h) (hv : rs[i]? = some (sv [d] th)) (hB : Bd j (ct G)) (hj : j ≤ 3)
    (next : ∀ h' ov' g' G' gn', HF (PW w b c) (hq || d == 113) h' → ct G' = tell1 d (ct G) → Spec (VW (wF w b c)) none 16 (tlC (PW w b c) L hc it) (tzD (PW w b c) E L hc it q x tx rs rn h' ov' g' G' gn' (i + 1)) P) :
    Spec (VW (wF w b c)) none 16 (tlC (PW w b c) L hc it) (tzD (PW w b c) E L hc it q x tx rs rn h ov g G gn i) P := by
  have hl := hB.lenG (by omega)
  have h2 : 2 ≤ G.length := by have := hB.two; rwa [show (ct G).length = G.length from List.length_map ..] at this
  by_cases e : d = 113
  · subst e
    have hb : (hq || 113 == 113) = true := by simp
    rw [hb] at next
    match G, h2 with
    | p :: t :: G', _ =>
      simp only [List.length_cons] at hl
      have ks : ∀ hg kw, (hg = [] ∨ ∃ k v, hg = gapE (PW w b c) k v) → Oks (wF w b c) (tlKq (PW w b c) E L hc it q x tx rs rn hg kw g p (t :: G') gn i th) := fun hg kw hh => .cons (fun _ _ => kIN_ok hv) <| .cons (fun _ _ => seq_is (by decide)) <| .cons (fun _ _ => kLG_ok rfl (by decide)) <|
        .cons (fun _ _ => kLS_ok (pick_drop (gR (p :: t :: G')) 1 (by simp [gR])) (by rw [gR_len]; exact Nat.le_trans (show (p :: t :: G').length ≤ 162 by simpa using hl) (by decide))) <|
        .cons (fun _ _ => kTQ_ok hh (by simp) (by simp; omega)) <| .cons (fun _ τ => kLA_ok (by
          have pm := (inter_is (t :: G') (mkG (qus (t :: G')) (unl (τ 4))) (ct_mkG _ _)).2.length_eq
          have l1 : (mkG (qus (t :: G')) (unl (τ 4))).length = (qus (t :: G')).length := by
            have := congrArg List.length (ct_mkG (qus (t :: G')) (unl (τ 4)))
            rwa [show (ct (mkG (qus (t :: G')) (unl (τ 4)))).length = (mkG (qus (t :: G')) (unl (τ 4))).length from List.length_map ..] at this
          have l2 : ∀ G : List Gap, (qus G).length = 2 * G.length := fun G => by
            induction G with
            | nil => rfl
            | cons g G ih => rw [qus_cons]; simp only [List.length_cons, ih]; omega
          rw [List.length_append, l1, l2] at pm
          simp only [List.length_append, List.length_cons, List.length_nil, gR_len, pm]
          exact Nat.le_trans (show _ ≤ 1000 by omega) (by decide))) .nil
      have fin : ∀ kw k5 a6 r0 r5 r6 r8 u, Spec (VW (wF w b c)) none 16 (tlC (PW w b c) L hc it)
          ([(L, tdF (PW w b c) E x tx q r8 (wdE (PW w b c) kw (.ref r5) ++ gapE (PW w b c) k5 (.ref a6))), (q, sqO "list" rs rn), (hc, cellO (some (sv [113] th))), (it, itO "list_iterator" q (i + 1)), (r8, listN ([.ref r0, .ref p.1] ++ gR (inter (t :: G') (mkG (qus (t :: G')) (unl u))) ++ [.ref r6]) 0), (r0, listN [] 0), (r6, listN [] 0)]
            ++ app (gD (p :: t :: G')) (gD (mkG (qus (t :: G')) (unl u)))) P := fun kw k5 a6 r0 r5 r6 r8 u => by
        obtain ⟨ec, pm⟩ := inter_is (t :: G') (mkG (qus (t :: G')) (unl u)) (ct_mkG _ _)
        have nx := next (wdE (PW w b c) kw (.ref r5) ++ gapE (PW w b c) k5 (.ref a6)) (some (sv [113] th)) r8 ((r0, [], 0) :: p :: inter (t :: G') (mkG (qus (t :: G')) (unl u)) ++ [(r6, [], 0)]) 0 ⟨_, _, _, _, rfl⟩ (by
          have ea : ∀ a b : List Gap, ct (a ++ b) = ct a ++ ct b := fun a b => List.map_append ..
          rw [ea]
          show [] :: p.2.1.map (·.1) :: ct (inter (t :: G') (mkG (qus (t :: G')) (unl u))) ++ [[]] = _
          rw [ec]
          rfl)
        refine nx.ord ?_
        have eR : gR ((r0, [], 0) :: p :: inter (t :: G') (mkG (qus (t :: G')) (unl u)) ++ [(r6, [], 0)]) = [.ref r0, .ref p.1] ++ gR (inter (t :: G') (mkG (qus (t :: G')) (unl u))) ++ [.ref r6] := by rw [gR_app]; rfl
        have eD : gD ((r0, [], 0) :: p :: inter (t :: G') (mkG (qus (t :: G')) (unl u)) ++ [(r6, [], 0)]) = (r0, listN [] 0) :: (gD (p :: inter (t :: G') (mkG (qus (t :: G')) (unl u))) ++ [(r6, listN [] 0)]) := by rw [gD_app]; rfl
        unfold tzD
        rw [eR, eD, app_eq]
        refine .cons _ (.cons _ (.cons _ (.cons _ (.cons _ ?_))))
        have pm1 : (gD (p :: t :: G') ++ gD (mkG (qus (t :: G')) (unl u))).Perm (gD (p :: inter (t :: G') (mkG (qus (t :: G')) (unl u)))) := by
          have := gD_perm (List.Perm.cons p pm.symm)
          have e := gD_app (p :: t :: G') (mkG (qus (t :: G')) (unl u))
          rw [← e]
          exact this
        show ((r0, listN [] 0) :: (r6, listN [] 0) :: (gD (p :: t :: G') ++ gD (mkG (qus (t :: G')) (unl u)))).Perm ((r0, listN [] 0) :: (gD (p :: inter (t :: G') (mkG (qus (t :: G')) (unl u))) ++ [(r6, listN [] 0)]))
        exact .cons _ ((List.Perm.cons _ pm1).trans (List.perm_append_comm (l₁ := [_])))
      cases hq with
      | false =>
        cases hh
        exact spec_run (fun ρ τ => tlq0_run w b c ρ τ E L hc it q x tx rs rn ov g p (t :: G') gn i th) (ks _ _ (.inl rfl)) fun ρ τ => fin (τ 2) (τ 5) (τ 6) (ρ 0) (ρ 5) (ρ 6) (ρ 8) (τ 4)
      | true =>
        obtain ⟨k1, a1, k2, a2, rfl⟩ := hh
        exact spec_run (fun ρ τ => tlq1_run w b c ρ τ E L hc it q x tx rs rn ov g p (t :: G') gn i th k1 k2 (.ref a1) (.ref a2)) (ks _ _ (.inr ⟨_, _, rfl⟩)) fun ρ τ => fin k1 (τ 5) (τ 6) (ρ 0) (ρ 5) (ρ 6) (ρ 8) (τ 4)
  · have hb : (hq || d == 113) = hq := by
      have : (d == 113) = false := by simpa using e
      rw [this, Bool.or_false]
    rw [hb] at next
    have t1 : tell1 d (ct G) = cmap d (ct G) := if_neg e
    have ks : Oks (wF w b c) (tlKe (PW w b c) L hc it q rs rn g G gn i d th) := .cons (fun _ _ => kIN_ok hv) <| .cons (fun _ _ => seq_is (by simpa using e)) <| .cons (fun _ _ => kTO_ok hd (by intro q; rw [q] at h2; simp at h2) (hB.gap (by omega)) (by omega)) .nil
    have fin : ∀ a u, Spec (VW (wF w b c)) none 16 (tlC (PW w b c) L hc it) ([(L, tdF (PW w b c) E x tx q a h), (q, sqO "list" rs rn), (hc, cellO (some (sv [d] th))), (it, itO "list_iterator" q (i + 1)), (a, listN (gR (mkG (cmap d (ct G)) (unl u))) G.length)] ++ gD (mkG (cmap d (ct G)) (unl u))) P :=
      fun a u => next h (some (sv [d] th)) a (mkG (cmap d (ct G)) (unl u)) G.length hh (by rw [ct_mkG, t1])
    cases hq with
    | false =>
      cases hh
      exact spec_run (fun ρ τ => tle0_run w b c ρ τ E L hc it q x tx rs rn ov g G gn i d th) ks fun ρ τ => fin _ _
    | true =>
      obtain ⟨k1, a1, k2, a2, rfl⟩ := hh
      exact spec_run (fun ρ τ => tle1_run w b c ρ τ E L hc it q x tx rs rn ov g G gn i d th k1 k2 (.ref a1) (.ref a2)) ks fun ρ τ => fin _ _
theorem tl_all : ∀ (rest done : List (Nat × Tok)) (h : List DictEntry) (hq : Bool) (ov : Option Value) (g : Addr) (G : List Gap) (gn j : Nat), (∀ p ∈ rest, Hand p.1) → HF (PW w b c) hq h → Bd j (ct G) → j + rest.length ≤ 4 →
    Spec (VW (wF w b c)) none 16 (tlC (PW w b c) L hc it) (tzD (PW w b c) E L hc it q x tx (rwV (done ++ rest)) rn h ov g G gn done.length)
      fun r D => ∃ h' g' G' gn', HF (PW w b c) (hq || hasQ (rest.map (·.1))) h' ∧ ct G' = tellN (rest.map (·.1)) (ct G) ∧ r = .ok .next ∧ D = [(L, tdF (PW w b c) E x tx q g' h'), (q, sqO "list" (rwV (done ++ rest)) rn), (g', listN (gR G') gn')] ++ gD G'
  | [], done, h, hq, ov, g, G, gn, j, _, hh, _, _ => by
    rw [List.append_nil]
    have e : done.length = (rwV done).length := (rwV_len done).symm
    rw [e]
    exact spec_run (fun ρ τ => tlx_run w b c ρ τ E L hc it q x tx (rwV done) rn ov g G gn h) (Oks.cons (fun _ _ => kIE_ok) .nil) fun ρ τ => ⟨h, g, G, gn, by rw [show (hq || hasQ (([] : List (Nat × Tok)).map (·.1))) = hq from Bool.or_false hq]; exact hh, rfl, rfl, rfl⟩
  | s :: rest, done, h, hq, ov, g, G, gn, j, hs, hh, hB, hj => by
    have e0 : (rwV (done ++ s :: rest))[done.length]? = some (sv [s.1] s.2) := rwV_get done s rest
    simp only [List.length_cons] at hj
    refine tl_turn (hs s (.head _)) hh e0 hB (by omega) fun h' ov' g' G' gn' hh' hc' => ?_
    have ih := tl_all rest (done ++ [s]) h' (hq || s.1 == 113) ov' g' G' gn' (j + 1) (fun x hx => hs x (.tail _ hx)) hh' (by rw [hc']; exact hB.step _) (by omega)
    have eA : done ++ [s] ++ rest = done ++ s :: rest := by simp
    have eL : (done ++ [s]).length = done.length + 1 := by simp
    rw [eA, eL, hc'] at ih
    have eb : (hq || s.1 == 113 || hasQ (rest.map (·.1))) = (hq || hasQ ((s :: rest).map (·.1))) := Bool.or_assoc ..
    rw [eb] at ih
    exact ih
theorem kTl_ok {row : List (Nat × Tok)} {g : Addr} {G : List Gap} {gn : Nat} (hs : ∀ p ∈ row, Hand p.1) (hB : Bd 0 (ct G)) (hn : row.length ≤ 4) : Cut.Ok (VW (wF w b c)) (kTl (PW w b c) E L hc it q x tx row rn g G gn (hasQ (row.map (·.1)))) := by
  refine (tl_all (w := w) (b := b) (c := c) (E := E) (L := L) (hc := hc) (it := it) (q := q) (x := x) (tx := tx) (rn := rn) row [] [] false none g G gn 0 hs rfl hB (by omega)).mono (Nat.le_refl _) fun r D h => ?_
  obtain ⟨h', g', G', gn', hh, hc', rfl, rfl⟩ := h
  rw [Bool.false_or] at hh
  obtain ⟨ns, hns⟩ := mkG_all G'
  obtain ⟨u, hu⟩ := unl_all ns
  have e : mkG (tellN (row.map (·.1)) (ct G)) (unl u) = G' := by rw [hu, ← hc', hns]
  cases hb : hasQ (row.map (·.1)) with
  | false =>
    rw [hb] at hh
    cases hh
    refine ⟨[g'], [0, 0, 0, 0, u, gn'], rfl, rfl, rfl, ?_⟩
    show _ = [(L, tdF (PW w b c) E x tx q g' []), (q, sqO "list" (rwV row) rn)] ++ [(g', listN (gR (mkG (tellN (row.map (·.1)) (ct G)) (unl u))) gn')] ++ gD (mkG (tellN (row.map (·.1)) (ct G)) (unl u))
    rw [e]
    rfl
  | true =>
    rw [hb] at hh
    obtain ⟨k1, a1, k2, a2, rfl⟩ := hh
    refine ⟨[g'], [k1, a1, k2, a2, u, gn'], rfl, rfl, rfl, ?_⟩
    show _ = [(L, tdF (PW w b c) E x tx q g' (wdE (PW w b c) k1 (.ref a1) ++ gapE (PW w b c) k2 (.ref a2))), (q, sqO "list" (rwV row) rn)] ++ [(g', listN (gR (mkG (tellN (row.map (·.1)) (ct G)) (unl u))) gn')] ++ gD (mkG (tellN (row.map (·.1)) (ct G)) (unl u))
    rw [e]
    rfl
end
end Mine
end
section
open PySem PySem.W PySem.W.X PyProof.Rows PySem.Builtin PySem.Builtin.Str
set_option Elab.async false
set_option maxRecDepth 100000
set_option linter.unusedVariables false
namespace Mine
section
variable (w : World) (b c : Bool) (ρ : Nat → Addr) (τ : Nat → Tok) (x : List Nat) (t : Tok) (L hc C it acc g : Addr) (gs : List Value) (gn : Nat) (vs : List Value) (m i : Nat) (a : Addr) (l : Sts) (n : Nat)
theorem lc_run : Both (runOf (wF w b c) ρ τ 100 (lcZ x) lc_h (lcK x t) (lc_e (wF w b c)) 6 (.call (.type "list") ⟨[sv x t], []⟩) []) := by cases b <;> exact both_of (by kernel_rfl)
theorem tj0_run : Both (runOf (wF w b c) ρ τ 100 (tjZ (PW w b c) L hc C it acc g gs gn kNew vs m i a l) tj0_h (tjK it acc g gs gn vs m i a l n) (tj0_e (wF w b c)) 11 (tjC (PW w b c) L hc C it acc) (tjD C it acc g gs gn (dictN [] 0) vs m i ++ [(a, listN (vsO l) n)])) := by cases b <;> exact both_of (by kernel_rfl)
theorem tj1_run (k : Tok) (v : Value) : Both (runOf (wF w b c) ρ τ 100 (tjZ (PW w b c) L hc C it acc g gs gn (kOld k) vs m i a l) tj1_h (tjK it acc g gs gn vs m i a l n) (tj1_e (wF w b c)) 11 (tjC (PW w b c) L hc C it acc) (tjD C it acc g gs gn (dictN (gapE (PW w b c) k v) 1) vs m i ++ [(a, listN (vsO l) n)])) := by cases b <;> exact both_of (by kernel_rfl)
theorem tje_run (cd : Obj) : Both (runOf (wF w b c) ρ τ 100 (tjY C acc cd vs m) tje_h (tiE it g gs gn) (tje_e (wF w b c)) 11 (tjC (PW w b c) L hc C it acc) (tjD C it acc g gs gn cd vs m gs.length)) := by cases b <;> exact both_of (by kernel_rfl)
theorem td0_run (q : Addr) (row : List (Nat × Tok)) (rn : Nat) : Both (runOf (wF w b c) ρ τ 300 (tdZ x q row rn) td0_h (tdK (PW w b c) x t q row rn false) (td0_e (wF w b c)) 18 (.call (.ref 914) ⟨[sv x t, .ref q], []⟩) [(q, sqO "list" (rwV row) rn)]) := by cases b <;> exact both_of (by kernel_rfl)
theorem td1_run (q : Addr) (row : List (Nat × Tok)) (rn : Nat) : Both (runOf (wF w b c) ρ τ 300 (tdZ x q row rn) td1_h (tdK (PW w b c) x t q row rn true) (td1_e (wF w b c)) 18 (.call (.ref 914) ⟨[sv x t, .ref q], []⟩) [(q, sqO "list" (rwV row) rn)]) := by cases b <;> exact both_of (by kernel_rfl)
end
theorem join_nil : ∀ l : List Str, (Str.join ⟨#[]⟩ l).cps.toList = flat (l.map (·.cps.toList))
  | [] => rfl
  | [p] => (List.append_nil _).symm
  | p :: q :: r => by
    have ih := join_nil (q :: r)
    show (p ++ ⟨#[]⟩ ++ Str.join ⟨#[]⟩ (q :: r)).cps.toList = p.cps.toList ++ flat ((q :: r).map (·.cps.toList))
    rw [← ih]
    simp [Str.cps_append]
theorem sts_cps (l : Sts) : (l.map fun p => (⟨⟨p.1⟩⟩ : Str)).map (·.cps.toList) = l.map (·.1) := by rw [List.map_map]; rfl
theorem joined {sep : List Nat} {l : Sts} {y : List Nat} (h : (Str.join ⟨⟨sep⟩⟩ (l.map fun p => (⟨⟨p.1⟩⟩ : Str))).cps.toList = y) : Str.join ⟨⟨sep⟩⟩ (l.map fun p => (⟨⟨p.1⟩⟩ : Str)) = ⟨⟨y⟩⟩ := by
  refine Str.ext' (Array.toList_inj.mp ?_)
  rw [h]
theorem joined_nil (l : Sts) : Str.join ⟨⟨[]⟩⟩ (l.map fun p => (⟨⟨p.1⟩⟩ : Str)) = ⟨⟨flat (l.map (·.1))⟩⟩ := joined ((join_nil _).trans (by rw [sts_cps]))
theorem joined_39 (c : Nat) (l : Sts) : Str.join ⟨⟨[c]⟩⟩ (l.map fun p => (⟨⟨p.1⟩⟩ : Str)) = ⟨⟨joinN c (l.map (·.1))⟩⟩ := joined ((join_is c _).trans (by rw [sts_cps]))
theorem sum_le {B : Nat} : ∀ l : List Nat, (∀ n ∈ l, n ≤ B) → l.sum ≤ l.length * B
  | [], _ => Nat.zero_le _
  | a :: l, h => by
    have h1 := h a (.head _)
    have ih := sum_le l fun n hn => h n (.tail _ hn)
    rw [List.sum_cons, List.length_cons, Nat.succ_mul]
    omega
theorem flat_sum : ∀ l : List (List Nat), (flat l).length = (l.map (·.length)).sum
  | [] => rfl
  | x :: l => by
    show (x ++ flat l).length = _
    rw [List.length_append, flat_sum l]
    rfl
theorem flat_le {B : Nat} {l : List (List Nat)} (h : ∀ y ∈ l, y.length ≤ B) : (flat l).length ≤ l.length * B := by
  rw [flat_sum]
  have := sum_le (B := B) (l.map (·.length)) fun n hn => by
    obtain ⟨y, hy, rfl⟩ := List.mem_map.mp hn
    exact h y hy
  rwa [List.length_map] at this
theorem kLC_ok {w : World} {b c : Bool} {x : List Nat} {t : Tok} (ha : ∀ c ∈ x, c < 128) (hx : x.length ≤ 1000) : Cut.Ok (VW (wF w b c)) (kLC x t) := by
  refine spec_run (fun ρ τ => lc_run w b c ρ τ x t) (Oks.cons (fun _ _ => kLN_ok) <| .cons (fun _ _ => kSI_ok ha) <| .cons (fun ρ τ => ?_) .nil) fun ρ τ => ⟨[ρ 0], [τ 0], rfl, rfl, rfl, rfl⟩
  refine Spec.drop (ext_all hx x [] [] 0 rfl rfl) fun r D h => ?_
  obtain ⟨zs, hz, rfl, R, rfl⟩ := h
  obtain ⟨u, hu⟩ := zipT_any hz
  refine ⟨_, R, .refl _, [], [u], rfl, rfl, rfl, ?_⟩
  show [(ρ 0, listN (vsO zs) (0 + x.length))] = [(ρ 0, listN (vsO (zipT (x.map fun c => [c]) (unl u))) x.length)]
  rw [hu, Nat.zero_add]
section
variable {w : World} {b c : Bool} {L hc C it acc g : Addr} {gn : Nat} {P : Result → Dyn → Prop}
theorem fine_sum {l : Sts} (h : Fine l) : (l.map fun p => p.1.length).sum + l.length * ([] : List Nat).length ≤ sizeLine := by
  have := sum_le (B := 1000) (l.map fun p => p.1.length) fun n hn => by
    obtain ⟨p, hp, rfl⟩ := List.mem_map.mp hn
    exact (h.1 p hp).2
  rw [List.length_map] at this
  have h2 := Nat.mul_le_mul_right 1000 h.2
  exact Nat.le_trans (show _ ≤ 1000 * 1000 by simp only [List.length_nil]; omega) (by decide)
theorem tj_turn {gs vs : List Value} {m i : Nat} {cd : Obj} {s : Gap} (R : Dyn) (hcd : cd = dictN [] 0 ∨ ∃ k v, cd = dictN (gapE (PW w b c) k v) 1) (hs : Fine s.2.1) (hv : gs[i]? = some (.ref s.1)) (hm : vs.length ≤ sizeLine)
    (next : ∀ (k t : Tok), Spec (VW (wF w b c)) none 11 (tjC (PW w b c) L hc C it acc) (tjD C it acc g gs gn (dictN (gapE (PW w b c) k (.ref s.1)) 1) (vs ++ [sv (flat (s.2.1.map (·.1))) t]) (m + 1) (i + 1) ++ R) P) :
    Spec (VW (wF w b c)) none 11 (tjC (PW w b c) L hc C it acc) (tjD C it acc g gs gn cd vs m i ++ ((s.1, listN (vsO s.2.1) s.2.2) :: R)) P := by
  obtain ⟨a, l, n⟩ := s
  have ks : Oks (wF w b c) (tjK it acc g gs gn vs m i a l n) := .cons (fun _ _ => kIN_ok hv) <| .cons (fun _ _ => kSJ_ok (joined_nil l) (fine_sum hs)) <| .cons (fun _ _ => kLP_ok hm) .nil
  rcases hcd with rfl | ⟨k, v, rfl⟩
  · exact spec_run_fr R (fun ρ τ => tj0_run w b c ρ τ L hc C it acc g gs gn vs m i a l n) ks fun ρ τ => next _ _
  · exact spec_run_fr R (fun ρ τ => tj1_run w b c ρ τ L hc C it acc g gs gn vs m i a l n k v) ks fun ρ τ => next _ _
theorem tj_mid : ∀ (rest done : List Gap) (p : Gap) (k : Tok) (v : Addr) (ys : Sts) (m : Nat), (∀ g ∈ rest, Fine g.2.1) → ys.length + rest.length ≤ 1000 →
    Spec (VW (wF w b c)) none 11 (tjC (PW w b c) L hc C it acc) (tjD C it acc g (gR (done ++ p :: rest)) gn (dictN (gapE (PW w b c) k (.ref v)) 1) (vsO ys) m (done.length + 1) ++ gD rest)
      fun r D => ∃ (zs : Sts) (k' : Tok) (v' : Addr), zs.map (·.1) = (ct rest).map flat ∧ r = .ok .next ∧ D = [(acc, listN (vsO (ys ++ zs)) (m + rest.length)), (C, dictN (gapE (PW w b c) k' (.ref v')) 1)]
  | [], done, p, k, v, ys, m, _, _ => by
    have e : done.length + 1 = (gR (done ++ [p])).length := by rw [gR_len]; simp
    rw [e]
    exact spec_run (fun ρ τ => tje_run w b c ρ τ L hc C it acc g (gR (done ++ [p])) gn (vsO ys) m _) (Oks.cons (fun _ _ => kIE_ok) .nil) fun ρ τ => ⟨[], k, v, rfl, rfl, by rw [List.append_nil]; rfl⟩
  | s :: rest, done, p, k, v, ys, m, hs, hb => by
    have e0 : (gR (done ++ p :: s :: rest))[done.length + 1]? = some (.ref s.1) := by
      have := gR_get (done ++ [p]) s rest
      simpa using this
    simp only [List.length_cons] at hb
    refine tj_turn (gD rest) (.inr ⟨k, _, rfl⟩) (hs s (.head _)) e0 (by rw [vsO_len']; exact Nat.le_trans (show ys.length ≤ 1000 by omega) (by decide)) fun k' t => ?_
    have ih := tj_mid rest (done ++ [p]) s k' s.1 (ys ++ [(flat (s.2.1.map (·.1)), t)]) (m + 1) (fun x hx => hs x (.tail _ hx)) (by simp; omega)
    have eA : done ++ [p] ++ s :: rest = done ++ p :: s :: rest := by simp
    have eL : (done ++ [p]).length = done.length + 1 := by simp
    have e3 : vsO (ys ++ [(flat (s.2.1.map (·.1)), t)]) = vsO ys ++ [sv (flat (s.2.1.map (·.1))) t] := vsO_app ys _
    rw [eA, eL, e3] at ih
    refine ih.mono (Nat.le_refl _) fun r D h => ?_
    obtain ⟨zs, k', v', hz, rfl, rfl⟩ := h
    refine ⟨(flat (s.2.1.map (·.1)), t) :: zs, k', v', ?_, rfl, ?_⟩
    · show flat (s.2.1.map (·.1)) :: zs.map (·.1) = flat (s.2.1.map (·.1)) :: (ct rest).map flat
      rw [hz]
    · rw [List.append_assoc, show m + 1 + rest.length = m + (s :: rest).length by simp; omega]
      rfl
theorem kTJ_ok {G : List Gap} (hG : G ≠ []) (hl : ∀ g ∈ G, Fine g.2.1) (hn : G.length ≤ 1000) : Cut.Ok (VW (wF w b c)) (kTJ (PW w b c) L hc C it acc g G gn) := by
  cases G with
  | nil => exact absurd rfl hG
  | cons s rest =>
    simp only [List.length_cons] at hn
    have st : Spec (VW (wF w b c)) none 11 (tjC (PW w b c) L hc C it acc) (tjD C it acc g (gR (s :: rest)) gn (dictN [] 0) [] 0 0 ++ gD (s :: rest)) fun r D => ∃ (as : List Addr) (ts : List Tok), as.length = 0 ∧ ts.length = 3 ∧ r = .ok .next ∧
        D = [(acc, listN (vsO (zipT ((ct (s :: rest)).map flat) (unl (hd0 ts)))) (s :: rest).length), (C, dictN (gapE (PW w b c) (hd1 ts) (.ref (hd2 ts))) 1)] := by
      refine tj_turn (gD rest) (.inl rfl) (hl s (.head _)) rfl (by decide) fun k' t => ?_
      have ih := tj_mid (w := w) (b := b) (c := c) (L := L) (hc := hc) (C := C) (it := it) (acc := acc) (g := g) (gn := gn) rest [] s k' s.1 [(flat (s.2.1.map (·.1)), t)] 1 (fun x hx => hl x (.tail _ hx)) (by simp; omega)
      refine ih.mono (Nat.le_refl _) fun r D h => ?_
      obtain ⟨zs, k', v', hz, rfl, rfl⟩ := h
      obtain ⟨u, hu⟩ := zipT_any (zs := (flat (s.2.1.map (·.1)), t) :: zs) (l := (ct (s :: rest)).map flat) (by
        show flat (s.2.1.map (·.1)) :: zs.map (·.1) = flat (s.2.1.map (·.1)) :: (ct rest).map flat
        rw [hz])
      refine ⟨[], [u, k', v'], rfl, rfl, rfl, ?_⟩
      show _ = [(acc, listN (vsO (zipT ((ct (s :: rest)).map flat) (unl u))) (s :: rest).length), (C, dictN (gapE (PW w b c) k' (.ref v')) 1)]
      rw [hu, show 1 + rest.length = (s :: rest).length by simp; omega]
      rfl
    have cs := comp_start (w := w) (b := b) (c := c) (fr := none) (acc := .ref acc) (env := tjEnv (PW w b c) L hc C) (T := "list_iterator") (it := it) (fs := [.ref g, .int (.ofNat 0) 0]) (k := 10) (R := [(acc, listN [] 0), (C, dictN [] 0), (g, sqO "list" (gR (s :: rest)) gn)] ++ gD (s :: rest)) (.inl rfl)
      (st.ord (List.perm_middle (l₁ := [_, _])).symm)
    refine (cs.ord (List.perm_middle (l₁ := [_, _]))).mono (Nat.le_refl _) fun r D h => ?_
    obtain ⟨as, ts, h1, h2, h3, h4⟩ := h
    refine ⟨as, ts, h1, h2, h3, ?_⟩
    rw [h4]
    match as, h1 with
    | [], _ => rfl
end
theorem Bd.stepN {j : Nat} : ∀ (row : List Nat) {c : List (List (List Nat))}, Bd j c → ∃ k, k = j + row.length ∧ Bd k (tellN row c)
  | [], _, h => ⟨j, rfl, h⟩
  | d :: row, c, h => by
    obtain ⟨k, hk, hB⟩ := Bd.stepN (j := j + 1) row (h.step d)
    exact ⟨k, by rw [hk, List.length_cons]; omega, hB⟩
theorem good1 (c : Nat) : Good [c] := by
  by_cases h : c = 38
  · exact .inl ⟨[], by rw [h]⟩
  · exact .inr ⟨c, h, rfl⟩
theorem bd0 {x : List Nat} (hx : x.length ≤ 7) : Bd 0 [[], x.map fun c => [c]] := by
  refine ⟨fun l hl => ?_, by simp, by simp⟩
  rcases List.mem_cons.mp hl with rfl | hl
  · constructor
    · intro y hy
      cases hy
    · simp
  · rw [List.mem_singleton] at hl
    subst hl
    constructor
    · intro y hy
      obtain ⟨c, _, rfl⟩ := List.mem_map.mp hy
      exact ⟨good1 c, by simp⟩
    · rw [List.length_map]
      exact hx
theorem ct_G0 (x : List Nat) (a b : Addr) (t : Tok) : ct (tdG0 x a b t) = [[], x.map fun c => [c]] := by
  show [[], (zipT (x.map fun c => [c]) (unl t)).map (·.1)] = _
  rw [zipT_map]
theorem Bd.size {j : Nat} {c : List (List (List Nat))} (h : Bd j c) (hj : j ≤ 4) : ((c.map flat).map (·.length)).sum + c.length ≤ 30000 := by
  have h1 := sum_le (B := 147) ((c.map flat).map (·.length)) fun n hn => by
    obtain ⟨y, hy, rfl⟩ := List.mem_map.mp hn
    obtain ⟨l, hl, rfl⟩ := List.mem_map.mp hy
    have hf := h.fine l hl
    have := flat_le (B := 21) fun y hy => by have := (hf.1 y hy).2; omega
    have := Nat.mul_le_mul_right 21 hf.2
    omega
  rw [List.length_map, List.length_map] at h1
  have : 3 ^ j ≤ 3 ^ 4 := Nat.pow_le_pow_right (by decide) hj
  have := h.few
  omega
theorem kTd_ok {w : World} {b c : Bool} {x : List Nat} {tx : Tok} {q : Addr} {row : List (Nat × Tok)} {rn : Nat} (ha : ∀ c ∈ x, c < 128) (hx : x.length ≤ 7) (hs : ∀ p ∈ row, Hand p.1) (hn : row.length ≤ 4) : Cut.Ok (VW (wF w b c)) (kTd x tx q row rn) := by
  have ks : Oks (wF w b c) (tdK (PW w b c) x tx q row rn (hasQ (row.map (·.1)))) := by
    refine .cons (fun _ _ => kLC_ok ha (by omega)) <| .cons (fun ρ τ => kTl_ok hs (by rw [ct_G0]; exact bd0 hx) hn) <| .cons (fun ρ τ => ?_) <| .cons (fun ρ τ => ?_) .nil
    all_goals
      obtain ⟨k, hk, hB⟩ := (bd0 hx).stepN (row.map (·.1))
      rw [List.length_map] at hk
      have e1 : ct (tdG1 x row (ρ 2) (ρ 3) (τ 2) (τ 8)) = tellN (row.map (·.1)) [[], x.map fun c => [c]] := by
        unfold tdG1
        rw [ct_mkG, ct_G0]
      have hB' : Bd k (ct (tdG1 x row (ρ 2) (ρ 3) (τ 2) (τ 8))) := by rw [e1]; exact hB
    · have hlen := hB'.lenG (by omega)
      refine kTJ_ok (fun e => ?_) (hB'.gap (by omega)) (by omega)
      have := hB'.two
      rw [e] at this
      simp [ct] at this
    · have ez := zipT_map ((ct (tdG1 x row (ρ 2) (ρ 3) (τ 2) (τ 8))).map flat) (unl (τ 11))
      refine kSJ_ok ?_ ?_
      · have j := joined_39 39 (zipT ((ct (tdG1 x row (ρ 2) (ρ 3) (τ 2) (τ 8))).map flat) (unl (τ 11)))
        rw [ez] at j
        rw [j, e1]
        rfl
      · have sz := hB'.size (by omega)
        have e2 : ((zipT ((ct (tdG1 x row (ρ 2) (ρ 3) (τ 2) (τ 8))).map flat) (unl (τ 11))).map fun p => p.1.length) = ((ct (tdG1 x row (ρ 2) (ρ 3) (τ 2) (τ 8))).map flat).map (·.length) := by
          have := congrArg (List.map (·.length)) ez
          rw [List.map_map] at this
          exact this
        have e3 : (zipT ((ct (tdG1 x row (ρ 2) (ρ 3) (τ 2) (τ 8))).map flat) (unl (τ 11))).length = (ct (tdG1 x row (ρ 2) (ρ 3) (τ 2) (τ 8))).length := by
          have := congrArg List.length ez
          rwa [List.length_map, List.length_map] at this
        rw [e2, e3]
        exact Nat.le_trans (show _ ≤ 30000 by simp only [List.length_cons, List.length_nil]; omega) (by decide)
  cases hb : hasQ (row.map (·.1)) with
  | false =>
    rw [hb] at ks
    exact spec_run (fun ρ τ => td0_run w b c ρ τ x tx q row rn) ks fun ρ τ => ⟨[], [τ 14], rfl, rfl, rfl, rfl⟩
  | true =>
    rw [hb] at ks
    exact spec_run (fun ρ τ => td1_run w b c ρ τ x tx q row rn) ks fun ρ τ => ⟨[], [τ 14], rfl, rfl, rfl, rfl⟩
end Mine
end
section
open PySem PySem.W PySem.W.X PyProof.Rows PySem.Builtin PySem.Builtin.Str
set_option Elab.async false
set_option maxRecDepth 100000
set_option linter.unusedVariables false
namespace Mine
noncomputable def kLE (a b : Addr) (l m : Sts) (n k : Nat) (r : Bool) : Cut := ⟨none, .builtin "list.__eq__" ⟨[.ref a, .ref b], []⟩, [(a, listN (vsO l) n), (b, listN (vsO m) k)], 0, 0, 0, fun _ _ => .ok (.ret (.bool r)), fun _ _ => [listN (vsO l) n, listN (vsO m) k], fun _ _ => [], none⟩
noncomputable def kLNe (a b : Addr) (l m : Sts) (n k : Nat) (r : Bool) : Cut := ⟨none, .builtin "list.__ne__" ⟨[.ref a, .ref b], []⟩, [(a, listN (vsO l) n), (b, listN (vsO m) k)], 0, 0, 0, fun _ _ => .ok (.ret (.bool r)), fun _ _ => [listN (vsO l) n, listN (vsO m) k], fun _ _ => [], none⟩
theorem vsO_at {l : Sts} {j : Nat} (h : j < (⟨vsO l⟩ : Array Value).size) : (⟨vsO l⟩ : Array Value)[j] = sv ((l.map (·.1)).getD j []) ((l.map (·.2)).getD j 0) := by
  show (vsO l)[j] = _
  have h : j < (vsO l).length := h
  induction l generalizing j with
  | nil => cases h
  | cons p l ih =>
    cases j with
    | zero => rfl
    | succ j =>
      have := ih (j := j) (Nat.lt_of_succ_lt_succ h) (Nat.lt_of_succ_lt_succ h)
      simpa [vsO] using this
theorem lists_eq {l m : Sts} (hl : l.length = m.length) : ((List.range (⟨vsO l⟩ : Array Value).size).all fun j => (l.map (·.1)).getD j [] == (m.map (·.1)).getD j []) = (l.map (·.1) == m.map (·.1)) := by
  have sz : (⟨vsO l⟩ : Array Value).size = l.length := vsO_len' l
  rw [sz, Bool.eq_iff_iff, List.all_eq_true, beq_iff_eq]
  constructor
  · intro h
    apply List.ext_getElem?
    intro j
    by_cases hj : j < l.length
    · have := h j (List.mem_range.mpr hj)
      rw [beq_iff_eq, List.getD_eq_getElem?_getD, List.getD_eq_getElem?_getD] at this
      have h1 : j < (l.map (·.1)).length := by rw [List.length_map]; exact hj
      have h2 : j < (m.map (·.1)).length := by rw [List.length_map]; omega
      rw [List.getElem?_eq_getElem h1, List.getElem?_eq_getElem h2] at this ⊢
      simpa using this
    · rw [List.getElem?_eq_none (by rw [List.length_map]; omega), List.getElem?_eq_none (by rw [List.length_map]; omega)]
  · intro h j _
    rw [h, beq_iff_eq]
theorem str_beq (x y : List Nat) : ((⟨⟨x⟩⟩ : Str) == ⟨⟨y⟩⟩) = (x == y) := by
  rw [Bool.eq_iff_iff, beq_iff_eq, beq_iff_eq]
  exact ⟨fun h => congrArg (fun s : Str => s.cps.toList) h, fun h => by rw [h]⟩
theorem eq_ats {A : Around} {s : Shared} {l m : Sts} (j : Nat) (h1 : j < (⟨vsO l⟩ : Array Value).size) (h2 : j < (⟨vsO m⟩ : Array Value).size) : SeqAt.EqAt A s (⟨vsO l⟩ : Array Value)[j] (⟨vsO m⟩ : Array Value)[j] ((l.map (·.1)).getD j [] == (m.map (·.1)).getD j []) := by
  rw [vsO_at h1, vsO_at h2, ← str_beq]
  exact SeqAt.EqAt.str_str _ _ _ _
theorem kLE_ok {w : World} {a b : Addr} {l m : Sts} {n k : Nat} {r : Bool} (hr : (l.map (·.1) == m.map (·.1)) = r) : Cut.Ok (VW w) (kLE a b l m n k r) := by
  subst hr
  intro A s R _ _ hS ht hR
  have ha : s.heap.get? a = some (listN (vsO l) n) := hS.has _ (.head _)
  have hb : s.heap.get? b = some (listN (vsO m) k) := hS.has _ (.tail _ (.head _))
  have fin := hR (.ok (.ret (.bool (l.map (·.1) == m.map (·.1))))) _ _ s.toks ⟨[], [], rfl, rfl, rfl, rfl⟩ (Got.start hS) ht
  refine codeAny_builtin F.entry_list_eq ?_
  rw [Around.under_plainId (by decide +kernel)]
  by_cases hl : l.length = m.length
  · refine SeqAt.list_eqAt a b ⟨vsO l⟩ ⟨vsO m⟩ n k none none _ _ ((vsO_len' l).trans (hl.trans (vsO_len' m).symm)) (fun j => (l.map (·.1)).getD j [] == (m.map (·.1)).getD j []) pw w A R s ⟨ha, hb, fun j h1 h2 => eq_ats j h1 h2, ?_⟩
    rw [lists_eq hl]
    exact fin
  · have ne : (l.map (·.1) == m.map (·.1)) = false := by
      rw [beq_eq_false_iff_ne]
      intro e
      have := congrArg List.length e
      rw [List.length_map, List.length_map] at this
      exact hl this
    rw [ne] at fin
    exact SeqAt.list_eq_lengthsAt a b ⟨vsO l⟩ ⟨vsO m⟩ n k none none _ _ (by
      show ((vsO l).length != (vsO m).length) = true
      rw [vsO_len', vsO_len']
      simpa using hl) pw w A R s ⟨ha, hb, fin⟩
theorem kLNe_ok {w : World} {a b : Addr} {l m : Sts} {n k : Nat} (hr : l.map (·.1) = m.map (·.1)) : Cut.Ok (VW w) (kLNe a b l m n k false) := by
  intro A s R _ _ hS ht hR
  have ha : s.heap.get? a = some (listN (vsO l) n) := hS.has _ (.head _)
  have hb : s.heap.get? b = some (listN (vsO m) k) := hS.has _ (.tail _ (.head _))
  have fin := hR (.ok (.ret (.bool false))) _ _ s.toks ⟨[], [], rfl, rfl, rfl, rfl⟩ (Got.start hS) ht
  refine codeAny_builtin F.entry_list_ne ?_
  rw [Around.under_plainId (by decide +kernel)]
  have hl : l.length = m.length := by
    have := congrArg List.length hr
    rwa [List.length_map, List.length_map] at this
  refine SeqAt.list_neAt a b ⟨vsO l⟩ ⟨vsO m⟩ n k none none _ _ ((vsO_len' l).trans (hl.trans (vsO_len' m).symm)) (fun j => (l.map (·.1)).getD j [] == (m.map (·.1)).getD j []) pw w A R s ⟨ha, hb, fun j h1 h2 => eq_ats j h1 h2, ?_⟩
  rw [lists_eq hl, hr, beq_self_eq_true]
  exact fin
end Mine
end
section
open PySem PySem.W PySem.W.X PyProof.Rows
set_option Elab.async false
set_option maxRecDepth 100000
set_option linter.unusedVariables false
namespace Mine
noncomputable def bgFor (P : Params) : Stmt := stAt (lwB P) 10
noncomputable def bgB (P : Params) : List Stmt := forBd (bgFor P)
noncomputable def ncX (P : Params) : Expr := asgV (stAt (bgB P) 1)
noncomputable def ncE (P : Params) (L tc C : Addr) : Env := cEnv (ncX P) [] (lwEnv P L tc) C []
noncomputable def ncC (P : Params) (L tc C it acc : Addr) : Code := .compLoop (ncX P) 0 (.ref it) (.ref acc) (ncE P L tc C)
noncomputable def ncS (P : Params) (L tc C it acc : Addr) : Code := .compStart (ncX P) 0 (.ref it) (.ref acc) (ncE P L tc C)
noncomputable def nmE (P : Params) (k : Tok) (v : Value) : List DictEntry := [en P ⟨⟨[110, 97, 109, 101]⟩⟩ k v]
section
variable (P : Params) (L tc C it acc pc : Addr) (gs : List Value) (gn : Nat)
noncomputable def ncD (cd : Obj) (vs : List Value) (m i : Nat) : Dyn := [(acc, listN vs m), (C, cd), (it, itO "list_iterator" pc i), (pc, sqO "list" gs gn)]
noncomputable def ncK0 (i : Nat) (t : Tok) : List (Of Cut) := [fun _ _ => kIN it pc i gs gn (sv [] t)]
noncomputable def ncZ0 (k : (Nat → Tok) → Tok) (vs : List Value) (m i : Nat) (t : Tok) : Of Fini := fun _ τ => ⟨.inr (ncC P L tc C it acc), ncD C it acc pc gs gn (dictN (nmE P (k τ) (sv [] t)) 1) vs m (i + 1)⟩
noncomputable def ncK1 (vs : List Value) (m i d : Nat) (t : Tok) : List (Of Cut) := [fun _ _ => kIN it pc i gs gn (sv [d] t), fun _ _ => kLP acc vs m (sv [d] t)]
noncomputable def ncZ1 (k : (Nat → Tok) → Tok) (vs : List Value) (m i d : Nat) (t : Tok) : Of Fini := fun _ τ => ⟨.inr (ncC P L tc C it acc), ncD C it acc pc gs gn (dictN (nmE P (k τ) (sv [d] t)) 1) (vs ++ [sv [d] t]) (m + 1) (i + 1)⟩
noncomputable def ncU : List (Of Cut) := [fun _ _ => kIE it pc gs gn]
noncomputable def ncY (cd : Obj) (vs : List Value) (m : Nat) : Of Fini := fun _ _ => ⟨.inl (.ok .next), [(acc, listN vs m), (C, cd)]⟩
end
noncomputable def keepN : Sts → Sts
  | [] => []
  | p :: l => match p.1 with
    | [] => keepN l
    | _ :: _ => p :: keepN l
noncomputable def kSq (c : Nat) (x : List Nat) (t u : Tok) (l : List (List Nat)) : Cut := ⟨none, .builtin "str.split" ⟨[sv x t, sv [c] u], []⟩, [], 0, 1, 1, fun as _ => .ok (.ret (.ref (hd0 as))), fun _ _ => [], fun _ ts => [listN (vsO (zipT l (unl (hd0 ts)))) 0], none⟩
noncomputable def kNc (P : Params) (L tc C it acc pc : Addr) (zs : Sts) : Cut := ⟨none, ncS P L tc C it acc, [(acc, listN [] 0), (C, dictN [] 0), (it, itO "list_iterator" pc 0), (pc, listN (vsO zs) 0)], 11, 0, 4, fun _ _ => .ok .next,
  fun _ ts => [listN (vsO (keepN zs)) (hd0 ts), dictN (nmE P (hd1 ts) (sv (unl (hd2 ts)) (hd3 ts))) 1], fun _ _ => [], none⟩
noncomputable def kLNr (a b : Addr) (l : Sts) (m : List (Nat × Tok)) (n k : Nat) : Cut := ⟨none, .builtin "list.__ne__" ⟨[.ref a, .ref b], []⟩, [(a, listN (vsO l) n), (b, listN (rwV m) k)], 0, 0, 0, fun _ _ => .ok (.ret (.bool false)), fun _ _ => [listN (vsO l) n, listN (rwV m) k], fun _ _ => [], none⟩
end Mine
end
section
open PySem PySem.W PySem.W.X PyProof.Rows
set_option Elab.async false
set_option maxRecDepth 100000
namespace Mine
noncomputable def esB (o : Obj) : List Stmt := tryB (stAt (bodyOf o) 0)
noncomputable def esC (o : Obj) (N L : Addr) : Code := .func (entOf o N L).body (entOf o N L).env
noncomputable def csC : List (Nat × List Nat) := [(38, [38, 97, 109, 112, 59]), (60, [38, 108, 116, 59]), (62, [38, 103, 116, 59])]
noncomputable def csA : List (Nat × List Nat) := [(38, [38, 97, 109, 112, 59]), (60, [38, 108, 116, 59]), (62, [38, 103, 116, 59]), (34, [38, 113, 117, 111, 116, 59]), (13, [38, 35, 49, 51, 59]), (10, [38, 35, 49, 48, 59]), (9, [38, 35, 48, 57, 59])]
noncomputable def csH : List (Nat × List Nat) := [(38, [38, 97, 109, 112, 59]), (62, [38, 103, 116, 59]), (34, [38, 113, 117, 111, 116, 59])]
noncomputable def csE : List (Nat × List Nat) := [(38, [38, 97, 109, 112, 59]), (60, [38, 108, 116, 59]), (62, [38, 103, 116, 59]), (13, [38, 35, 120, 68, 59])]
noncomputable def csD : List (Nat × List Nat) := [(38, [38, 97, 109, 112, 59]), (60, [38, 108, 116, 59]), (34, [38, 113, 117, 111, 116, 59]), (9, [38, 35, 120, 57, 59]), (10, [38, 35, 120, 65, 59]), (13, [38, 35, 120, 68, 59])]
section
variable (P : Params) (L : Addr) (k : Tok) (x : List Nat) (t : Tok)
noncomputable def esZ0 (o : Obj) (N : Addr) : Of Fini := fun ρ τ => ⟨.inr (esC o N (ρ 0)), [(ρ 0, eF P (τ 0) x t)]⟩
noncomputable def esK1 (p : Nat × List Nat) : List (Of Cut) := [fun _ τ => kV "str.__contains__" [sv x t, sv [p.1] (τ 0)] (.bool true), fun _ τ => kS "str.replace" [sv x t, sv [p.1] (τ 1 + 1), sv p.2 (τ 1 + 2)] ⟨⟨repl p.1 p.2 x⟩⟩]
noncomputable def esZ1 (p : Nat × List Nat) : Of Fini := fun _ τ => ⟨.inl (.ok .next), [(L, eF P k (repl p.1 p.2 x) (τ 2))]⟩
noncomputable def esK2 (p : Nat × List Nat) : List (Of Cut) := [fun _ τ => kV "str.__contains__" [sv x t, sv [p.1] (τ 0)] (.bool false)]
noncomputable def esZ2 : Of Fini := fun _ _ => ⟨.inl (.ok .next), [(L, eF P k x t)]⟩
noncomputable def esZ3 : Of Fini := fun _ _ => ⟨.inl (.ok (.ret (sv x t))), [(L, eF P k x t)]⟩
end
noncomputable def kEs (N : Addr) (cs : List (Nat × List Nat)) (x : List Nat) (t : Tok) : Cut := ⟨none, .call (.ref N) ⟨[sv x t], []⟩, [], 8, 0, 1, fun _ ts => .ok (.ret (sv (escs cs x) (hd0 ts))), fun _ _ => [], fun _ _ => [], none⟩
end Mine
end
section
open PySem PySem.W PySem.W.X PyProof.Rows
set_option Elab.async false
set_option maxRecDepth 100000
namespace Mine
noncomputable def apo : List Nat := [39, 34, 39, 34, 39]
noncomputable def quoS (x : List Nat) : List Nat := 39 :: (repl 39 apo x ++ [39])
noncomputable def ld (a : Addr) (o : Obj) (t : Sem Fin) : Sem Fin := match t with
  | .load b _ k => match Nat.beq a b with
    | true => k o
    | false => .unsupported ""
  | _ => .unsupported ""
noncomputable def seCode : Array Nat := #[14, 17, 4, 1, 1, 21, 9, 0, 604043296, 1, 0, 0, 0, 0, 0, 8, 4, 0, 13, 14, 21, 9, 0, 604043296, 1, 0, 0, 0, 0, 0, 8, 4, 0, 1]
noncomputable def seF (x : List Nat) (t : Tok) (n : Nat) : Sem Fin :=
  PySem.W.Fast.tw9785098376550351509 { pattern := .ref 49, string := sv x t, code := seCode, text := ⟨x⟩, kind := 0, groups := 0, pos := min (Int.toNat 0) (Array.size ⟨x⟩), lim := n }
    (PySem.W.Fast.tw17975430018945453453 seCode ⟨x⟩ 0 (min (Int.toNat 0) (Array.size ⟨x⟩)) n false)
noncomputable def seT (x : List Nat) (t : Tok) : Sem Fin := PySem.W.Fast.tw5329503241344069477 ⟨[.ref 49, sv x t], []⟩
theorem seF_is (w : World) (x : List Nat) (t : Tok) : ld 48 (o48 w.params) (ld 49 (o49 w.params) (seT (39 :: x) t)) = seF (39 :: x) t (min (Int.toNat (2 ^ 63 - 1)) (Array.size ⟨39 :: x⟩)) := by
  kernel_rfl
theorem ld_own {M : Model} {A : Around} {c : Code} {a : Addr} {o : Obj} {t : Sem Fin} {Q : Fin → Shared → Prop} {E : Value → Shared → Prop} {s : Shared} (ho : s.heap.get? a = some o) (h : wpOwn M A c (ld a o t) Q E s) : wpOwn M A c t Q E s := by
  cases t with
  | load b q k =>
    unfold ld at h
    dsimp only at h
    cases e : Nat.beq a b with
    | true =>
      rw [e] at h
      have := Nat.eq_of_beq_eq_true e
      subst this
      intro Γ p hc hΓ
      exact (wpOwn_bind (m := loadPart a q) (f := k) (wpOwn_of_wpAny (wpAny_loadPart ho h))) Γ p hc hΓ
    | false =>
      rw [e] at h
      exact fun Γ p hc hΓ => (h Γ p hc hΓ : False).elim
  | _ => exact fun Γ p hc hΓ => (h Γ p hc hΓ : False).elim
theorem entry_search : entryFor table "re.Pattern.search" = some Builtin.«re.Pattern.search» := entryFor_of_tree (by kernel_rfl)
noncomputable def kSe (u : List Nat) (t : Tok) : Cut := ⟨none, .builtin "re.Pattern.search" ⟨[.ref 49, sv (39 :: u) t], []⟩, [], 0, 1, 0, fun as _ => .ok (.ret (.ref (hd0 as))), fun _ _ => [], fun _ _ => [], none⟩
theorem se_run (w : World) (ρ : Nat → Addr) (τ : Nat → Tok) (u : List Nat) (t : Tok) : Both (sim (VW w) none ρ τ (fun ρ _ => ⟨.inl (.ok (.ret (.ref (ρ 1)))), []⟩) 60 [0] [] [] 0 .base (.builtin "re.Pattern.search" ⟨[.ref 49, sv (39 :: u) t], []⟩) (seF (39 :: u) t (u.length + 1)) [] 0 0 [] []) := both_of (by kernel_rfl)
theorem kSe_ok {w : World} {u : List Nat} {t : Tok} (hu : u.length + 1 ≤ sizeLine) : Cut.Ok (VW w) (kSe u t) := by
  intro A s R hA hF hS ht hR
  obtain ⟨h, g, d, tk, os⟩ := s
  have ends : Ends (VW w) A R [] h g d os (fun ρ _ => ⟨.inl (.ok (.ret (.ref (ρ 1)))), []⟩) := fun ρ τ h' tk' G ht' => hR _ _ h' tk' ⟨[ρ 1], [], rfl, rfl, rfl, rfl⟩ G ht'
  have m := sim_sound (VW_ok w) hF ends 60 [0] [] [] 0 .base (kSe u t).code (seF (39 :: u) t (u.length + 1)) [] 0 0 [] [] (fun _ => 0) (fun _ => 0) h tk rfl hA (Got.start hS) ht (fun _ hk => nomatch hk) fun ρ τ _ _ => se_run w ρ τ u t
  refine y_code _ _ _ _ _ _ ?_
  show wpOwn _ A _ (denote table (.builtin "re.Pattern.search" ⟨[.ref 49, sv (39 :: u) t], []⟩)) _ _ _
  rw [den_builtin entry_search, PySem.W.Fast.te5329503241344069477]
  have h49 : h.get? 49 = some (o49 w.params) := hS.st 49 _ (by kernel_rfl)
  have h48 : h.get? 48 = some (o48 w.params) := hS.st 48 _ (by kernel_rfl)
  refine ld_own h49 (ld_own h48 ?_)
  have e := seF_is w u t
  have mn : min (Int.toNat (2 ^ 63 - 1)) (Array.size ⟨39 :: u⟩) = u.length + 1 := by
    have : Array.size (⟨39 :: u⟩ : Array Nat) = u.length + 1 := rfl
    rw [this]
    have l : sizeLine ≤ Int.toNat (2 ^ 63 - 1) := by decide
    omega
  rw [mn] at e
  unfold seT at e
  rw [e]
  exact m
noncomputable def quK (u : List Nat) (t : Tok) : List (Of Cut) := [fun _ _ => kI "len" [sv (39 :: u) t] (.ofNat (39 :: u).length), fun _ _ => kSe u t, fun _ τ => kS "str.replace" [sv (39 :: u) t, sv [39] (τ 3 + 1), sv apo (τ 3 + 2)] ⟨⟨repl 39 apo (39 :: u)⟩⟩,
  fun _ τ => kS "str.__add__" [sv [39] (τ 2), sv (repl 39 apo (39 :: u)) (τ 4)] ⟨⟨39 :: repl 39 apo (39 :: u)⟩⟩, fun _ τ => kS "str.__add__" [sv (39 :: repl 39 apo (39 :: u)) (τ 5), sv [39] (τ 6)] ⟨⟨quoS (39 :: u)⟩⟩]
noncomputable def quZ (u : List Nat) : Of Fini := fun _ τ => ⟨.inl (.ok (.ret (sv (quoS (39 :: u)) (τ 7)))), []⟩
noncomputable def kQu (u : List Nat) (t : Tok) : Cut := ⟨none, .call (.ref 752) ⟨[sv (39 :: u) t], []⟩, [], 8, 0, 1, fun _ ts => .ok (.ret (sv (quoS (39 :: u)) (hd0 ts))), fun _ _ => [], fun _ _ => [], none⟩
end Mine
end
section
open PySem PySem.W PySem.W.X PyProof.Rows
set_option Elab.async false
set_option maxRecDepth 100000
set_option linter.unusedVariables false
namespace Mine
noncomputable def nmS (P : Params) : Stmt := stAt (bgB P) 4
noncomputable def nmC (P : Params) (L tc it : Addr) : Code := forC (nmS P) (.ref it) (lwEnv P L tc)
noncomputable def lwBase (P : Params) (E : Nat → Tok) (lay : Bool) (sc hn : Addr) (x : List Nat) (tx : Tok) (st : Addr) (kv : Value) (ws xs ms : Addr) : List DictEntry := match lay with
  | true => [en P ⟨⟨[115, 99, 114, 105, 112, 116]⟩⟩ (E 0) (.ref sc), en P ⟨⟨[104, 97, 110, 100, 115]⟩⟩ (E 1) (.ref hn), en P ⟨⟨[115, 105, 103, 110, 115]⟩⟩ (E 2) (sv x tx), en P ⟨⟨[115, 116, 101, 112, 115]⟩⟩ (E 3) (.ref st), en P ⟨⟨[107]⟩⟩ (E 4) kv,
    en P ⟨⟨[119, 111, 114, 100, 115]⟩⟩ (E 5) (.ref ws), en P ⟨⟨[103, 111, 111, 100]⟩⟩ (E 6) (.bool true), en P ⟨⟨[116, 101, 120, 116, 115]⟩⟩ (E 7) (.ref xs), en P ⟨⟨[109, 97, 114, 107, 115]⟩⟩ (E 8) (.ref ms)]
  | false => [en P ⟨⟨[115, 99, 114, 105, 112, 116]⟩⟩ (E 0) (.ref sc), en P ⟨⟨[104, 97, 110, 100, 115]⟩⟩ (E 1) (.ref hn), en P ⟨⟨[115, 105, 103, 110, 115]⟩⟩ (E 2) (sv x tx), en P ⟨⟨[115, 116, 101, 112, 115]⟩⟩ (E 3) (.ref st),
    en P ⟨⟨[119, 111, 114, 100, 115]⟩⟩ (E 5) (.ref ws), en P ⟨⟨[103, 111, 111, 100]⟩⟩ (E 6) (.bool true), en P ⟨⟨[116, 101, 120, 116, 115]⟩⟩ (E 7) (.ref xs), en P ⟨⟨[109, 97, 114, 107, 115]⟩⟩ (E 8) (.ref ms), en P ⟨⟨[107]⟩⟩ (E 4) kv]
noncomputable def lenB : List DictEntry → Nat
  | [] => 0
  | _ :: l => lenB l + 1
noncomputable def appE : List DictEntry → List DictEntry → List DictEntry
  | [], r => r
  | e :: l, r => e :: appE l r
noncomputable def frR (env : Env) (back : Value) (l : List DictEntry) : Obj := readyO env back ⟨.type "frame", none, .dict ⟨l⟩ (lenB l), ⟨[]⟩⟩
noncomputable def roE (P : Params) (E : Nat → Tok) (r nm : Addr) (txt : List Nat) (tt : Tok) : List DictEntry := [en P ⟨⟨[114, 111, 119]⟩⟩ (E 9) (.ref r), en P ⟨⟨[110, 97, 109, 101, 115]⟩⟩ (E 10) (.ref nm), en P ⟨⟨[116, 101, 120, 116]⟩⟩ (E 11) (sv txt tt)]
noncomputable def hdDL (f : Nat → Tok) : DL := [([97], f 0, .ref 881), ([99], f 1, .ref 874), ([100], f 2, .ref 902), ([101], f 3, .ref 895), ([104], f 4, .ref 888)]
noncomputable def csOf : Nat → List (Nat × List Nat)
  | 97 => csA
  | 99 => csC
  | 100 => csD
  | 101 => csE
  | 104 => csH
  | _ => []
noncomputable def fnOf : Nat → Addr
  | 97 => 881
  | 99 => 874
  | 100 => 902
  | 101 => 895
  | _ => 888
noncomputable def hTx (d : Nat) (y : List Nat) : List Nat := if d = 113 then quoS y else escs (csOf d) y
noncomputable def hTxN : List Nat → List Nat → List Nat
  | [], y => y
  | d :: r, y => hTxN r (hTx d y)
section
variable (P : Params) (E f : Nat → Tok) (lay : Bool) (L tc it sc hn st ws xs ms r nm : Addr) (x : List Nat) (tx : Tok) (kv bk : Value) (ns : List Value) (nn : Nat)
noncomputable def nmF (txt : List Nat) (tt : Tok) (h : List DictEntry) : Obj := frR (lwEnv P L tc) bk (appE (lwBase P E lay sc hn x tx st kv ws xs ms) (appE (roE P E r nm txt tt) h))
noncomputable def nmD (txt : List Nat) (tt : Tok) (h : List DictEntry) (i : Nat) : Dyn := [(L, nmF P E lay L tc sc hn st ws xs ms r nm x tx kv bk txt tt h), (hn, dlO P (hdDL f) 5), (nm, sqO "list" ns nn), (it, itO "list_iterator" nm i)]
noncomputable def nmKq (i : Nat) (th : Tok) (u : List Nat) (tt : Tok) : List (Of Cut) := [fun _ _ => kIN it nm i ns nn (sv [113] th), fun _ τ => kV "str.__eq__" [sv [113] th, sv [113] (τ 1)] (.bool true), fun _ _ => kQu u tt]
noncomputable def nmKh (i d : Nat) (th : Tok) (u : List Nat) (tt : Tok) : List (Of Cut) := [fun _ _ => kIN it nm i ns nn (sv [d] th), fun _ τ => kV "str.__eq__" [sv [d] th, sv [113] (τ 1)] (.bool false), fun _ _ => kDG P hn (hdDL f) 5 [d] th (.ref (fnOf d)), fun _ _ => kEs (fnOf d) (csOf d) (39 :: u) tt]
noncomputable def nmZ (kk : (Nat → Tok) → Tok) (i d : Nat) (th : Tok) (y : List Nat) : Of Fini := fun _ τ => ⟨.inr (nmC P L tc it), nmD P E f lay L tc it sc hn st ws xs ms r nm x tx kv bk ns nn y (τ 2) (nmE P (kk τ) (sv [d] th)) (i + 1)⟩
noncomputable def nmY (txt : List Nat) (tt : Tok) (h : List DictEntry) : Of Fini := fun _ _ => ⟨.inl (.ok .next), [(L, nmF P E lay L tc sc hn st ws xs ms r nm x tx kv bk txt tt h), (hn, dlO P (hdDL f) 5)]⟩
noncomputable def nmU : List (Of Cut) := [fun _ _ => kIE it nm ns nn]
end
noncomputable def nmH (P : Params) (ne : Bool) (h : List DictEntry) (ts : List Tok) : List DictEntry := match ne with
  | false => h
  | true => nmE P (hd1 ts) (sv (unl (hd2 ts)) (hd3 ts))
noncomputable def kNm (P : Params) (E f : Nat → Tok) (lay : Bool) (L tc it sc hn st ws xs ms r nm : Addr) (x : List Nat) (tx : Tok) (kv bk : Value) (ns : Sts) (nn : Nat) (y : List Nat) (tt : Tok) (h : List DictEntry) (row : List Nat) (ne : Bool) : Cut :=
  ⟨none, nmC P L tc it, nmD P E f lay L tc it sc hn st ws xs ms r nm x tx kv bk (vsO ns) nn y tt h 0, 11, 0, 4, fun _ _ => .ok .next,
  fun _ ts => [nmF P E lay L tc sc hn st ws xs ms r nm x tx kv bk (hTxN row y) (hd0 ts) (nmH P ne h ts), dlO P (hdDL f) 5], fun _ _ => [], none⟩
end Mine
end
section
open PySem PySem.W PySem.W.X PyProof.Rows
set_option Elab.async false
set_option maxRecDepth 100000
set_option linter.unusedVariables false
namespace Mine
noncomputable def bgC (P : Params) (L tc it : Addr) : Code := forC (bgFor P) (.ref it) (lwEnv P L tc)
noncomputable def rowN (W : List (Stp × Tok)) : List Nat := rowS (W.map (·.1)) []
noncomputable def pcs : List Nat → List (List Nat)
  | [] => [[], []]
  | c :: l => [] :: (c :: l).map fun d => [d]
noncomputable def kAq (t : Tok) (x : List Nat) (u : Tok) : Cut := kS "str.__add__" [sv [39] t, sv x u] ⟨⟨39 :: x⟩⟩
noncomputable def lwBase0 (P : Params) (E : Nat → Tok) (sc hn : Addr) (x : List Nat) (tx : Tok) (st ws xs ms : Addr) : List DictEntry := [en P ⟨⟨[115, 99, 114, 105, 112, 116]⟩⟩ (E 0) (.ref sc), en P ⟨⟨[104, 97, 110, 100, 115]⟩⟩ (E 1) (.ref hn), en P ⟨⟨[115, 105, 103, 110, 115]⟩⟩ (E 2) (sv x tx), en P ⟨⟨[115, 116, 101, 112, 115]⟩⟩ (E 3) (.ref st),
    en P ⟨⟨[119, 111, 114, 100, 115]⟩⟩ (E 5) (.ref ws), en P ⟨⟨[103, 111, 111, 100]⟩⟩ (E 6) (.bool true), en P ⟨⟨[116, 101, 120, 116, 115]⟩⟩ (E 7) (.ref xs), en P ⟨⟨[109, 97, 114, 107, 115]⟩⟩ (E 8) (.ref ms)]
section
variable (P : Params) (E f : Nat → Tok) (lay : Bool) (L tc it sc hn st a0 a1 ws xs ms : Addr) (x : List Nat) (tx : Tok) (bk : Value) (W0 W1 : List (Stp × Tok)) (n0 n1 : Nat) (u0 u1 : Tok)
noncomputable def btD (F : Obj) (texts marks : List Value) (nx nm i r : Nat) : Dyn := [(L, F), (hn, dlO P (hdDL f) 5), (st, listN [.ref a0, .ref a1] 0), (a0, listN (stV W0) n0), (a1, listN (stV W1) n1), (ws, listN [sv (wordS (W0.map (·.1))) u0, sv (wordS (W1.map (·.1))) u1] 4), (xs, listN texts nx), (ms, listN marks nm), (it, riO i r)]
noncomputable def eT0 (τ : Nat → Tok) : Nat → Tok := fun k => match k with
  | 4 => match lay with
    | true => E 4
    | false => τ 1
  | 9 => τ 2
  | 10 => τ 10
  | 11 => τ 13
  | k => E k
noncomputable def btK (E : (Nat → Tok) → Nat → Tok) (kvi : Int) (h : List DictEntry) (a : Addr) (W : List (Stp × Tok)) (n : Nat) (u : Tok) (ne : Bool) : List (Of Cut) := [fun _ _ => kLr a n W, fun _ _ => kNp (W.map (·.1)) u, fun _ τ => kSq 47 (npRes (rowN W)) (τ 3) (τ 4) (pcs (rowN W)),
  fun ρ τ => kNc P L tc (ρ 4) (ρ 2) (ρ 3) (ρ 1) (zipT (pcs (rowN W)) (unl (τ 5))), fun ρ τ => kLNr (ρ 3) (ρ 0) (keepN (zipT (pcs (rowN W)) (unl (τ 5)))) (rowT W []) (τ 6) 0, fun _ τ => kAq (τ 11) x tx,
  fun ρ τ => kNm P (E τ) f lay L tc (ρ 5) sc hn st ws xs ms (ρ 0) (ρ 3) x tx (.int kvi (τ 0)) bk (keepN (zipT (pcs (rowN W)) (unl (τ 5)))) (τ 6) (39 :: x) (τ 12) h (rowN W) ne,
  fun ρ _ => kTd x tx (ρ 0) (rowT W []) 0, fun _ τ => kV "str.__eq__" [sv (hTxN (rowN W) (39 :: x)) (τ 14), sv (tdText ((rowT W []).map (·.1)) x) (τ 18)] (.bool true), fun ρ _ => kMk x tx (ρ 0) (rowT W []) 0]
noncomputable def btZ (E : (Nat → Tok) → Nat → Tok) (kvi : Int) (h : List DictEntry) (W : List (Stp × Tok)) (ne : Bool) (texts marks : List Value) (nx nm i r : Nat) : Of Fini := fun ρ τ => ⟨.inr (bgC P L tc it),
  btD P f L it hn st a0 a1 ws xs ms W0 W1 n0 n1 u0 u1 (nmF P (E τ) lay L tc sc hn st ws xs ms (ρ 0) (ρ 3) x tx (.int kvi (τ 0)) bk (hTxN (rowN W) (39 :: x)) (τ 14) (nmH P ne h [τ 14, τ 15, τ 16, τ 17])) (texts ++ [sv (hTxN (rowN W) (39 :: x)) (τ 14)]) (marks ++ [.ref (ρ 6)]) (nx + 1) (nm + 1) i r
    ++ [(ρ 6, listN (vsO (zipT (mkN ((rowT W []).map (·.1)) x) (unl (τ 20)))) (τ 21))]⟩
noncomputable def btY (F : Obj) (texts marks : List Value) (nx nm : Nat) : Of Fini := fun _ _ => ⟨.inl (.ok .next), [(L, F), (xs, listN texts nx), (ms, listN marks nm)]⟩
end
noncomputable def lwS (P : Params) (E : Nat → Tok) (lay : Bool) (sc hn : Addr) (x : List Nat) (tx : Tok) (st : Addr) (kv : Value) (ws xs ms : Addr) : List DictEntry := match lay with
  | true => lwBase P E true sc hn x tx st kv ws xs ms
  | false => lwBase0 P E sc hn x tx st ws xs ms
end Mine
end
section
open PySem PySem.W PySem.W.X PyProof.Rows
set_option Elab.async false
set_option maxRecDepth 100000
set_option linter.unusedVariables false
namespace Mine
noncomputable def btt0_h : List Nat := [9, 0, 9, 0, 9, 9, 9, 9, 8, 9, 8, 1, 0, 0, 1, 1, 3, 3, 3, 0, 3, 0, 3, 0, 1, 1, 3, 3, 2, 0, 3, 3, 7, 7, 7, 0, 7, 0, 7, 0, 1, 0, 0, 1, 0, 1, 1, 0, 1, 0, 1, 1, 4, 1, 0, 0, 0, 5, 4, 2, 2, 1, 5, 5, 1, 4, 1, 0, 1, 1, 2, 0, 2, 5, 0, 1, 0, 5, 4, 5, 1, 1, 0, 1, 0, 1, 1, 4, 5, 5, 1, 0, 1, 1, 0, 1, 1, 0, 1, 1, 2, 0, 1, 0, 2, 1, 2, 9, 9, 9, 9, 2, 0, 9, 0, 9, 8, 9, 2, 10, 10, 10, 10, 0, 2, 2, 0, 1, 1, 0, 0, 11, 0, 11, 10, 11, 2, 10, 2, 2, 4, 3, 3, 3, 3, 3, 3, 1]
noncomputable def btt0_e (w : World) : List (Of Ent) := []
noncomputable def btf0_h : List Nat := [9, 0, 9, 0, 9, 9, 9, 9, 8, 9, 8, 1, 0, 0, 1, 1, 3, 3, 3, 0, 3, 0, 3, 0, 1, 1, 3, 3, 2, 0, 3, 3, 7, 7, 7, 0, 7, 0, 7, 0, 1, 0, 0, 1, 0, 1, 1, 0, 1, 0, 1, 1, 4, 1, 0, 0, 0, 5, 4, 2, 2, 1, 5, 5, 1, 4, 1, 0, 1, 1, 2, 0, 2, 5, 0, 1, 0, 5, 4, 5, 1, 1, 0, 1, 0, 1, 1, 4, 5, 5, 1, 0, 1, 1, 0, 1, 1, 0, 1, 1, 2, 0, 1, 0, 2, 1, 2, 9, 9, 9, 9, 2, 0, 9, 0, 9, 8, 9, 2, 10, 10, 10, 10, 0, 2, 2, 0, 1, 1, 0, 0, 11, 0, 11, 10, 11, 2, 10, 2, 2, 4, 3, 3, 3, 3, 3, 3, 1]
noncomputable def btf0_e (w : World) : List (Of Ent) := []
noncomputable def btt1_h : List Nat := [9, 0, 9, 0, 9, 9, 9, 9, 8, 9, 8, 1, 0, 0, 1, 1, 3, 3, 3, 0, 3, 0, 3, 0, 1, 1, 4, 3, 2, 0, 3, 3, 7, 7, 7, 0, 7, 0, 7, 0, 1, 0, 0, 1, 0, 1, 1, 0, 1, 0, 1, 1, 4, 1, 0, 0, 0, 5, 4, 2, 2, 1, 5, 5, 1, 4, 1, 0, 1, 1, 2, 0, 2, 5, 0, 1, 0, 5, 4, 5, 1, 1, 0, 1, 0, 1, 1, 4, 5, 5, 1, 0, 1, 1, 0, 1, 1, 0, 1, 1, 2, 0, 1, 0, 2, 1, 2, 9, 9, 9, 9, 2, 0, 9, 0, 9, 8, 9, 2, 10, 10, 10, 10, 0, 2, 2, 0, 1, 1, 0, 0, 11, 0, 11, 10, 11, 2, 10, 2, 2, 4, 4, 3, 3, 3, 3, 3, 1]
noncomputable def btt1_e (w : World) : List (Of Ent) := []
noncomputable def btf1_h : List Nat := [9, 0, 9, 0, 9, 9, 9, 9, 8, 9, 8, 1, 0, 0, 1, 1, 3, 3, 3, 0, 3, 0, 3, 0, 1, 1, 4, 3, 2, 0, 3, 3, 7, 7, 7, 0, 7, 0, 7, 0, 1, 0, 0, 1, 0, 1, 1, 0, 1, 0, 1, 1, 4, 1, 0, 0, 0, 5, 4, 2, 2, 1, 5, 5, 1, 4, 1, 0, 1, 1, 2, 0, 2, 5, 0, 1, 0, 5, 4, 5, 1, 1, 0, 1, 0, 1, 1, 4, 5, 5, 1, 0, 1, 1, 0, 1, 1, 0, 1, 1, 2, 0, 1, 0, 2, 1, 2, 9, 9, 9, 9, 2, 0, 9, 0, 9, 8, 9, 2, 10, 10, 10, 10, 0, 2, 2, 0, 1, 1, 0, 0, 11, 0, 11, 10, 11, 2, 10, 2, 2, 4, 4, 3, 3, 3, 3, 3, 1]
noncomputable def btf1_e (w : World) : List (Of Ent) := []
noncomputable def bte_h : List Nat := [9, 0, 9, 0, 9, 9, 9, 1, 0, 3, 2, 7, 7]
noncomputable def bte_e (w : World) : List (Of Ent) := []
end Mine
end
section
open PySem PySem.W PySem.W.X PyProof.Rows
set_option Elab.async false
set_option maxRecDepth 100000
set_option linter.unusedVariables false
namespace Mine
noncomputable def nqt0_h : List Nat := [4, 0, 4, 1, 2, 3, 2, 3, 2, 3, 0, 1, 0, 0, 3, 0, 1, 0, 3, 2, 2, 4, 2, 2, 1, 0]
noncomputable def nqt0_e (w : World) : List (Of Ent) := []
noncomputable def nh97t0_h : List Nat := [4, 0, 4, 1, 2, 3, 2, 3, 2, 3, 0, 1, 0, 3, 3, 4, 4, 4, 0, 4, 1, 1, 3, 4, 0, 1, 0, 4, 3, 2, 4, 3, 0, 1, 0]
noncomputable def nh97t0_e (w : World) : List (Of Ent) := []
noncomputable def nh99t0_h : List Nat := [4, 0, 4, 1, 2, 3, 2, 3, 2, 3, 0, 1, 0, 3, 3, 4, 4, 4, 0, 4, 1, 1, 3, 4, 0, 1, 0, 4, 3, 2, 4, 3, 0, 1, 0]
noncomputable def nh99t0_e (w : World) : List (Of Ent) := []
noncomputable def nh100t0_h : List Nat := [4, 0, 4, 1, 2, 3, 2, 3, 2, 3, 0, 1, 0, 3, 3, 4, 4, 4, 0, 4, 1, 1, 3, 4, 0, 1, 0, 4, 3, 2, 4, 3, 0, 1, 0]
noncomputable def nh100t0_e (w : World) : List (Of Ent) := []
noncomputable def nh101t0_h : List Nat := [4, 0, 4, 1, 2, 3, 2, 3, 2, 3, 0, 1, 0, 3, 3, 4, 4, 4, 0, 4, 1, 1, 3, 4, 0, 1, 0, 4, 3, 2, 4, 3, 0, 1, 0]
noncomputable def nh101t0_e (w : World) : List (Of Ent) := []
noncomputable def nh104t0_h : List Nat := [4, 0, 4, 1, 2, 3, 2, 3, 2, 3, 0, 1, 0, 3, 3, 4, 4, 4, 0, 4, 1, 1, 3, 4, 0, 1, 0, 4, 3, 2, 4, 3, 0, 1, 0]
noncomputable def nh104t0_e (w : World) : List (Of Ent) := []
noncomputable def nqt1_h : List Nat := [4, 0, 4, 1, 2, 3, 2, 3, 2, 3, 0, 1, 0, 0, 3, 0, 1, 0, 3, 2, 2, 4, 2, 2, 1, 0]
noncomputable def nqt1_e (w : World) : List (Of Ent) := []
noncomputable def nh97t1_h : List Nat := [4, 0, 4, 1, 2, 3, 2, 3, 2, 3, 0, 1, 0, 3, 3, 4, 4, 4, 0, 4, 1, 1, 3, 4, 0, 1, 0, 4, 3, 2, 4, 3, 0, 1, 0]
noncomputable def nh97t1_e (w : World) : List (Of Ent) := []
noncomputable def nh99t1_h : List Nat := [4, 0, 4, 1, 2, 3, 2, 3, 2, 3, 0, 1, 0, 3, 3, 4, 4, 4, 0, 4, 1, 1, 3, 4, 0, 1, 0, 4, 3, 2, 4, 3, 0, 1, 0]
noncomputable def nh99t1_e (w : World) : List (Of Ent) := []
noncomputable def nh100t1_h : List Nat := [4, 0, 4, 1, 2, 3, 2, 3, 2, 3, 0, 1, 0, 3, 3, 4, 4, 4, 0, 4, 1, 1, 3, 4, 0, 1, 0, 4, 3, 2, 4, 3, 0, 1, 0]
noncomputable def nh100t1_e (w : World) : List (Of Ent) := []
noncomputable def nh101t1_h : List Nat := [4, 0, 4, 1, 2, 3, 2, 3, 2, 3, 0, 1, 0, 3, 3, 4, 4, 4, 0, 4, 1, 1, 3, 4, 0, 1, 0, 4, 3, 2, 4, 3, 0, 1, 0]
noncomputable def nh101t1_e (w : World) : List (Of Ent) := []
noncomputable def nh104t1_h : List Nat := [4, 0, 4, 1, 2, 3, 2, 3, 2, 3, 0, 1, 0, 3, 3, 4, 4, 4, 0, 4, 1, 1, 3, 4, 0, 1, 0, 4, 3, 2, 4, 3, 0, 1, 0]
noncomputable def nh104t1_e (w : World) : List (Of Ent) := []
noncomputable def nmet_h : List Nat := [4, 0, 4, 1, 2, 3, 2, 3, 0, 2, 4, 4]
noncomputable def nmet_e (w : World) : List (Of Ent) := []
noncomputable def nqf0_h : List Nat := [4, 0, 4, 1, 2, 3, 2, 3, 2, 3, 0, 1, 0, 0, 3, 0, 1, 0, 3, 2, 2, 4, 2, 2, 1, 0]
noncomputable def nqf0_e (w : World) : List (Of Ent) := []
noncomputable def nh97f0_h : List Nat := [4, 0, 4, 1, 2, 3, 2, 3, 2, 3, 0, 1, 0, 3, 3, 4, 4, 4, 0, 4, 1, 1, 3, 4, 0, 1, 0, 4, 3, 2, 4, 3, 0, 1, 0]
noncomputable def nh97f0_e (w : World) : List (Of Ent) := []
noncomputable def nh99f0_h : List Nat := [4, 0, 4, 1, 2, 3, 2, 3, 2, 3, 0, 1, 0, 3, 3, 4, 4, 4, 0, 4, 1, 1, 3, 4, 0, 1, 0, 4, 3, 2, 4, 3, 0, 1, 0]
noncomputable def nh99f0_e (w : World) : List (Of Ent) := []
noncomputable def nh100f0_h : List Nat := [4, 0, 4, 1, 2, 3, 2, 3, 2, 3, 0, 1, 0, 3, 3, 4, 4, 4, 0, 4, 1, 1, 3, 4, 0, 1, 0, 4, 3, 2, 4, 3, 0, 1, 0]
noncomputable def nh100f0_e (w : World) : List (Of Ent) := []
noncomputable def nh101f0_h : List Nat := [4, 0, 4, 1, 2, 3, 2, 3, 2, 3, 0, 1, 0, 3, 3, 4, 4, 4, 0, 4, 1, 1, 3, 4, 0, 1, 0, 4, 3, 2, 4, 3, 0, 1, 0]
noncomputable def nh101f0_e (w : World) : List (Of Ent) := []
noncomputable def nh104f0_h : List Nat := [4, 0, 4, 1, 2, 3, 2, 3, 2, 3, 0, 1, 0, 3, 3, 4, 4, 4, 0, 4, 1, 1, 3, 4, 0, 1, 0, 4, 3, 2, 4, 3, 0, 1, 0]
noncomputable def nh104f0_e (w : World) : List (Of Ent) := []
noncomputable def nqf1_h : List Nat := [4, 0, 4, 1, 2, 3, 2, 3, 2, 3, 0, 1, 0, 0, 3, 0, 1, 0, 3, 2, 2, 4, 2, 2, 1, 0]
noncomputable def nqf1_e (w : World) : List (Of Ent) := []
noncomputable def nh97f1_h : List Nat := [4, 0, 4, 1, 2, 3, 2, 3, 2, 3, 0, 1, 0, 3, 3, 4, 4, 4, 0, 4, 1, 1, 3, 4, 0, 1, 0, 4, 3, 2, 4, 3, 0, 1, 0]
noncomputable def nh97f1_e (w : World) : List (Of Ent) := []
noncomputable def nh99f1_h : List Nat := [4, 0, 4, 1, 2, 3, 2, 3, 2, 3, 0, 1, 0, 3, 3, 4, 4, 4, 0, 4, 1, 1, 3, 4, 0, 1, 0, 4, 3, 2, 4, 3, 0, 1, 0]
noncomputable def nh99f1_e (w : World) : List (Of Ent) := []
noncomputable def nh100f1_h : List Nat := [4, 0, 4, 1, 2, 3, 2, 3, 2, 3, 0, 1, 0, 3, 3, 4, 4, 4, 0, 4, 1, 1, 3, 4, 0, 1, 0, 4, 3, 2, 4, 3, 0, 1, 0]
noncomputable def nh100f1_e (w : World) : List (Of Ent) := []
noncomputable def nh101f1_h : List Nat := [4, 0, 4, 1, 2, 3, 2, 3, 2, 3, 0, 1, 0, 3, 3, 4, 4, 4, 0, 4, 1, 1, 3, 4, 0, 1, 0, 4, 3, 2, 4, 3, 0, 1, 0]
noncomputable def nh101f1_e (w : World) : List (Of Ent) := []
noncomputable def nh104f1_h : List Nat := [4, 0, 4, 1, 2, 3, 2, 3, 2, 3, 0, 1, 0, 3, 3, 4, 4, 4, 0, 4, 1, 1, 3, 4, 0, 1, 0, 4, 3, 2, 4, 3, 0, 1, 0]
noncomputable def nh104f1_e (w : World) : List (Of Ent) := []
noncomputable def nmef_h : List Nat := [4, 0, 4, 1, 2, 3, 2, 3, 0, 2, 4, 4]
noncomputable def nmef_e (w : World) : List (Of Ent) := []
end Mine
end
section
open PySem PySem.W PySem.W.X PyProof.Rows
set_option Elab.async false
set_option maxRecDepth 100000
set_option linter.unusedVariables false
namespace Mine
noncomputable def safe (c : Nat) : Bool := !(([38, 39, 60, 62, 34, 13, 10, 9] : List Nat).contains c)
noncomputable def GoodS (y : List Nat) : Prop := (∃ u, y = 38 :: u ∧ ∀ c ∈ u, safe c = true) ∨ ∃ c, c ≠ 38 ∧ c ≠ 39 ∧ y = [c]
theorem tab_safe : ∀ d, ∀ p ∈ tabOf d, (∀ c ∈ p.2, safe c = true) ∧ p.1 ≠ 38 ∧ p.1 ≠ 39 := fun d => by
  unfold tabOf
  split <;> decide
theorem sh1_goodS {d : Nat} {y : List Nat} (h : GoodS y) : GoodS (sh1 d y) := by
  unfold sh1
  split
  · exact h
  · rcases h with ⟨u, rfl, hu⟩ | ⟨c, hc, h9, rfl⟩
    · refine .inl ⟨97 :: 109 :: 112 :: 59 :: u, rfl, fun c hc => ?_⟩
      simp only [List.mem_cons] at hc
      rcases hc with rfl | rfl | rfl | rfl | hc
      · decide
      · decide
      · decide
      · decide
      · exact hu c hc
    · simp only [hc, if_false]
      split
      · rename_i v hv
        exact .inl ⟨v, rfl, fun c' hc' => (tab_safe d _ (lk_mem hv)).1 c' hc'⟩
      · exact .inr ⟨c, hc, h9, rfl⟩
theorem good_no39 {y : List Nat} (h : GoodS y) : 39 ∉ y := by
  rcases h with ⟨u, rfl, hu⟩ | ⟨c, _, h9, rfl⟩
  · intro q
    rcases List.mem_cons.mp q with e | q
    · cases e
    · exact absurd (hu 39 q) (by decide)
  · rw [List.mem_singleton]
    exact fun e => h9 e.symm
theorem escs_app : ∀ (l : List (Nat × List Nat)) (a b : List Nat), escs l (a ++ b) = escs l a ++ escs l b
  | [], _, _ => rfl
  | p :: l, a, b => by
    show escs l (repl p.1 p.2 (a ++ b)) = escs l (repl p.1 p.2 a) ++ escs l (repl p.1 p.2 b)
    rw [repl_app, escs_app l]
theorem repl_nil (c : Nat) (e : List Nat) : repl c e [] = [] := rfl
theorem escs_nil : ∀ l : List (Nat × List Nat), escs l [] = []
  | [] => rfl
  | _ :: l => escs_nil l
theorem escs_free : ∀ (l : List (Nat × List Nat)) (x : List Nat), (∀ p ∈ l, p.1 ∉ x) → escs l x = x
  | [], _, _ => rfl
  | p :: l, x, h => by
    show escs l (repl p.1 p.2 x) = x
    rw [repl_free p.1 p.2 x (h p (.head _))]
    exact escs_free l x fun q hq => h q (.tail _ hq)
theorem escs_flat (l : List (Nat × List Nat)) : ∀ L : List (List Nat), escs l (flat L) = flat (L.map (escs l))
  | [] => escs_nil l
  | x :: L => by
    show escs l (x ++ flat L) = escs l x ++ flat (L.map (escs l))
    rw [escs_app, escs_flat l L]
theorem escs_join (l : List (Nat × List Nat)) (h : escs l [39] = [39]) : ∀ L : List (List Nat), escs l (joinN 39 L) = joinN 39 (L.map (escs l))
  | [] => escs_nil l
  | [x] => rfl
  | x :: y :: L => by
    have ih := escs_join l h (y :: L)
    show escs l (x ++ ([39] ++ joinN 39 (y :: L))) = escs l x ++ ([39] ++ joinN 39 ((y :: L).map (escs l)))
    rw [escs_app, escs_app, h, ih]
noncomputable def HandE (d : Nat) : Prop := d = 97 ∨ d = 99 ∨ d = 100 ∨ d = 101 ∨ d = 104
theorem cs_keys {d : Nat} (h : HandE d) : ∀ p ∈ csOf d, safe p.1 = false ∧ p.1 ≠ 39 := by
  rcases h with rfl | rfl | rfl | rfl | rfl <;> decide
theorem cs_39 {d : Nat} (h : HandE d) : escs (csOf d) [39] = [39] := by
  rcases h with rfl | rfl | rfl | rfl | rfl <;> decide
theorem cs_38 {d : Nat} (h : HandE d) : escs (csOf d) [38] = amp5 := by
  rcases h with rfl | rfl | rfl | rfl | rfl <;> decide
theorem cs_tab {d : Nat} (h : HandE d) : ∀ p ∈ tabOf d, escs (csOf d) [p.1] = 38 :: p.2 := by
  rcases h with rfl | rfl | rfl | rfl | rfl <;> decide
theorem cs_known {d : Nat} (h : HandE d) : ∀ p ∈ csOf d, p.1 = 38 ∨ (lk (tabOf d) p.1).isSome = true := by
  rcases h with rfl | rfl | rfl | rfl | rfl <;> decide
theorem cs_other {d c : Nat} (h : HandE d) (hc : c ≠ 38) (hn : lk (tabOf d) c = none) : escs (csOf d) [c] = [c] := by
  refine escs_free _ _ fun p hp => ?_
  rw [List.mem_singleton]
  rintro rfl
  rcases cs_known h p hp with e | e
  · exact hc e
  · rw [hn] at e
    cases e
theorem hand_one {d : Nat} (h : HandE d) {y : List Nat} (hy : GoodS y) : escs (csOf d) y = sh1 d y := by
  have nq : d ≠ 113 := by rcases h with rfl | rfl | rfl | rfl | rfl <;> decide
  unfold sh1
  rw [if_neg nq]
  rcases hy with ⟨u, rfl, hu⟩ | ⟨c, hc, _, rfl⟩
  · show escs (csOf d) ([38] ++ u) = amp5 ++ u
    rw [escs_app, cs_38 h, escs_free _ u fun p hp q => ?_]
    have := hu _ q
    rw [(cs_keys h p hp).1] at this
    cases this
  · show _ = (if c = 38 then amp5 ++ [] else match lk (tabOf d) c with | some v => 38 :: v | none => [c])
    rw [if_neg hc]
    cases e : lk (tabOf d) c with
    | none => exact cs_other h hc e
    | some v => exact cs_tab h _ (lk_mem e)
theorem repl_39 : ∀ (p : List Nat) (r : List (List Nat)), (∀ q ∈ p :: r, 39 ∉ q) → repl 39 apo (joinN 39 (p :: r)) = p ++ flat (r.map fun q => apo ++ q)
  | p, [], h => by
    show repl 39 apo p = p ++ []
    rw [repl_free _ _ _ (h p (.head _)), List.append_nil]
  | p, q :: r, h => by
    have ih := repl_39 q r fun x hx => h x (.tail _ hx)
    show repl 39 apo (p ++ ([39] ++ joinN 39 (q :: r))) = p ++ ((apo ++ q) ++ flat (r.map fun q => apo ++ q))
    rw [repl_app, repl_app, ih, repl_free _ _ _ (h p (.head _))]
    have : repl 39 apo [39] = apo := by decide
    rw [this, List.append_assoc]
theorem join_end : ∀ (p : List Nat) (r : List (List Nat)), joinN 39 (p :: (r ++ [[]])) = joinN 39 (p :: r) ++ [39]
  | p, [] => by simp [joinN]
  | p, q :: r => by
    have ih := join_end q r
    show p ++ 39 :: joinN 39 (q :: (r ++ [[]])) = (p ++ 39 :: joinN 39 (q :: r)) ++ [39]
    rw [ih]
    simp
theorem join_quo : ∀ (p : List Nat) (r : List (List Nat)), joinN 39 (p :: r.flatMap fun q => [[34], [34], q]) = p ++ flat (r.map fun q => apo ++ q)
  | p, [] => (List.append_nil p).symm
  | p, q :: r => by
    have ih := join_quo q r
    show p ++ 39 :: ([34] ++ 39 :: ([34] ++ 39 :: joinN 39 (q :: r.flatMap fun q => [[34], [34], q]))) = p ++ ((apo ++ q) ++ flat (r.map fun q => apo ++ q))
    rw [ih]
    simp [apo]
theorem flat_quo (r : List (List (List Nat))) : (r.flatMap fun g => [[[34]], [[34]], g]).map flat = (r.map flat).flatMap fun q => [[34], [34], q] := by
  induction r with
  | nil => rfl
  | cons g r ih =>
    show ([[[34]], [[34]], g] ++ r.flatMap fun g => [[[34]], [[34]], g]).map flat = [[34], [34], flat g] ++ (r.map flat).flatMap fun q => [[34], [34], q]
    rw [List.map_append, ih]
    rfl
noncomputable def txtOf (c : List (List (List Nat))) : List Nat := joinN 39 (c.map flat)
theorem flat_no39 : ∀ l : List (List Nat), (∀ y ∈ l, 39 ∉ y) → 39 ∉ flat l
  | [], _ => by simp [flat]
  | y :: l, h => by
    show 39 ∉ y ++ flat l
    rw [List.mem_append]
    rintro (q | q)
    · exact h y (.head _) q
    · exact flat_no39 l (fun z hz => h z (.tail _ hz)) q
noncomputable def OkC (c : List (List (List Nat))) : Prop := c ≠ [] ∧ ∀ l ∈ c, ∀ y ∈ l, GoodS y
theorem OkC.no39 {c : List (List (List Nat))} (h : OkC c) : ∀ p ∈ c.map flat, 39 ∉ p := fun p hp => by
  obtain ⟨l, hl, rfl⟩ := List.mem_map.mp hp
  exact flat_no39 l fun y hy => good_no39 (h.2 l hl y hy)
theorem quo_step {c : List (List (List Nat))} (h : OkC c) : quoS (txtOf c) = txtOf (tellq c) := by
  have h9 := h.no39
  match c, h with
  | a :: r, _ =>
    show 39 :: (repl 39 apo (joinN 39 (flat a :: r.map flat)) ++ [39]) = joinN 39 ([] :: (flat a :: (((r.flatMap fun g => [[[34]], [[34]], g]) ++ [[]]).map flat)))
    rw [repl_39 _ _ h9, List.map_append, flat_quo]
    show _ = [] ++ 39 :: joinN 39 (flat a :: ((r.map flat).flatMap (fun q => [[34], [34], q]) ++ [[]]))
    rw [join_end, join_quo]
    rfl
theorem esc_step {d : Nat} (hd : HandE d) {c : List (List (List Nat))} (h : OkC c) : escs (csOf d) (txtOf c) = txtOf (cmap d c) := by
  unfold txtOf cmap
  rw [escs_join _ (cs_39 hd), List.map_map, List.map_map]
  congr 1
  refine List.map_congr_left fun l hl => ?_
  show escs (csOf d) (flat l) = flat (l.map (sh1 d))
  rw [escs_flat]
  congr 1
  exact List.map_congr_left fun y hy => hand_one hd (h.2 l hl y hy)
theorem hand_split {d : Nat} (h : Hand d) : d = 113 ∨ HandE d := by
  unfold Hand at h
  unfold HandE
  exact h
theorem hTx_step {d : Nat} (hd : Hand d) {c : List (List (List Nat))} (h : OkC c) : hTx d (txtOf c) = txtOf (tell1 d c) := by
  unfold hTx tell1
  rcases hand_split hd with rfl | he
  · rw [if_pos rfl, if_pos rfl]
    exact quo_step h
  · have nq : d ≠ 113 := by rcases he with rfl | rfl | rfl | rfl | rfl <;> decide
    rw [if_neg nq, if_neg nq]
    exact esc_step he h
theorem OkC.step {d : Nat} {c : List (List (List Nat))} (h : OkC c) : OkC (tell1 d c) := by
  obtain ⟨h1, h2⟩ := h
  unfold tell1
  split
  · match c, h1 with
    | a :: r, _ =>
      refine ⟨by simp [tellq], fun l hl y hy => ?_⟩
      have hl : l ∈ [] :: a :: (r.flatMap fun g => [[[34]], [[34]], g]) ++ [[]] := hl
      simp only [List.cons_append, List.mem_cons, List.mem_append, List.mem_flatMap, List.not_mem_nil, or_false] at hl
      have q34 : GoodS [34] := .inr ⟨34, by decide, by decide, rfl⟩
      rcases hl with rfl | rfl | ⟨g, hg, rfl | rfl | rfl⟩ | rfl
      · cases hy
      · exact h2 _ (.head _) y hy
      · rw [List.mem_singleton] at hy; rw [hy]; exact q34
      · rw [List.mem_singleton] at hy; rw [hy]; exact q34
      · exact h2 _ (.tail _ hg) y hy
      · cases hy
  · refine ⟨fun e => h1 (List.map_eq_nil_iff.mp e), fun l hl y hy => ?_⟩
    unfold cmap at hl
    obtain ⟨l', hl', rfl⟩ := List.mem_map.mp hl
    obtain ⟨y', hy', rfl⟩ := List.mem_map.mp hy
    exact sh1_goodS (h2 l' hl' y' hy')
noncomputable def OkX (x : List Nat) : Prop := x.length ≤ 7 ∧ ∀ c ∈ x, c ∈ sgL
theorem okC0 {x : List Nat} (h : OkX x) : OkC [[], x.map fun c => [c]] := by
  refine ⟨by simp, fun l hl y hy => ?_⟩
  simp only [List.mem_cons, List.not_mem_nil, or_false] at hl
  rcases hl with rfl | rfl
  · cases hy
  · obtain ⟨c, hc, rfl⟩ := List.mem_map.mp hy
    by_cases e : c = 38
    · exact .inl ⟨[], by rw [e], fun _ h => nomatch h⟩
    · refine .inr ⟨c, e, ?_, rfl⟩
      rintro rfl
      exact absurd (h.2 39 hc) (by decide)
theorem txt0 (x : List Nat) : txtOf [[], x.map fun c => [c]] = 39 :: x := by
  show [] ++ 39 :: flat (x.map fun c => [c]) = 39 :: x
  have : ∀ x : List Nat, flat (x.map fun c => [c]) = x := fun x => by
    induction x with
    | nil => rfl
    | cons c x ih =>
      show [c] ++ flat (x.map fun c => [c]) = c :: x
      rw [ih]
      rfl
  rw [this]
  rfl
theorem hTxN_tell : ∀ (row : List Nat) {c : List (List (List Nat))}, (∀ d ∈ row, Hand d) → OkC c → hTxN row (txtOf c) = txtOf (tellN row c)
  | [], _, _, _ => rfl
  | d :: row, c, h, hc => by
    show hTxN row (hTx d (txtOf c)) = txtOf (tellN row (tell1 d c))
    rw [hTx_step (h d (.head _)) hc]
    exact hTxN_tell row (fun x hx => h x (.tail _ hx)) hc.step
theorem told_law {row x : List Nat} (h : ∀ d ∈ row, Hand d) (hx : OkX x) : hTxN row (39 :: x) = tdText row x := by
  rw [← txt0]
  exact hTxN_tell row h (okC0 hx)
end Mine
end
section
open PySem PySem.W PySem.W.X PyProof.Rows
set_option Elab.async false
set_option maxRecDepth 100000
set_option linter.unusedVariables false
namespace Mine
noncomputable def mt0_h : List Nat := [5, 0, 5, 1, 1, 4, 3, 2, 0, 3, 4, 0, 1, 1, 4, 0, 3, 1, 1, 2, 2, 5, 0, 2, 2, 0, 0]
noncomputable def mt0_e (w : World) : List (Of Ent) := []
noncomputable def mt1_h : List Nat := [5, 0, 5, 1, 1, 4, 3, 2, 0, 3, 4, 0, 1, 1, 4, 0, 3, 1, 1, 2, 2, 5, 0, 2, 2, 0, 0]
noncomputable def mt1_e (w : World) : List (Of Ent) := []
noncomputable def mte_h : List Nat := [5, 0, 5, 1, 1, 4, 2, 4, 3, 3, 3, 3]
noncomputable def mte_e (w : World) : List (Of Ent) := []
noncomputable def mlq0_h : List Nat := [5, 0, 5, 1, 1, 4, 2, 1, 5, 2, 4, 4, 4, 0, 4, 1, 1, 3, 0, 1, 0, 3, 4, 4, 4, 4, 0, 5, 3, 0, 1, 0, 2, 2, 2, 0, 2, 1, 2, 1, 0, 0, 1, 1, 2, 0, 6, 1, 1, 5, 2, 5, 5, 0, 1, 3, 2]
noncomputable def mlq0_e (w : World) : List (Of Ent) := []
noncomputable def mlq1_h : List Nat := [5, 0, 5, 1, 1, 4, 2, 1, 5, 2, 4, 4, 4, 0, 4, 1, 1, 3, 0, 1, 0, 3, 4, 4, 4, 4, 0, 5, 3, 0, 1, 0, 2, 2, 2, 0, 2, 1, 2, 1, 0, 0, 1, 1, 2, 0, 6, 1, 1, 5, 2, 5, 5, 0, 1, 3, 2]
noncomputable def mlq1_e (w : World) : List (Of Ent) := []
noncomputable def mln0_h : List Nat := [5, 0, 5, 1, 1, 4, 2, 1, 5, 2, 4, 4, 4, 0, 4, 1, 1, 3, 0, 1, 0, 2, 5, 2, 2, 0, 1, 0]
noncomputable def mln0_e (w : World) : List (Of Ent) := []
noncomputable def mln1_h : List Nat := [5, 0, 5, 1, 1, 4, 2, 1, 5, 2, 4, 4, 4, 0, 4, 1, 1, 3, 0, 1, 0, 2, 5, 2, 2, 0, 1, 0]
noncomputable def mln1_e (w : World) : List (Of Ent) := []
noncomputable def mlx_h : List Nat := [5, 0, 5, 0, 5, 5, 5, 1, 0, 3, 2, 2, 2]
noncomputable def mlx_e (w : World) : List (Of Ent) := []
noncomputable def mk0n_h : List Nat := [0, 0, 2, 1, 1, 0, 2, 0, 1, 0, 1, 1, 5, 1, 0, 1, 2, 0, 5, 4, 2, 0, 0, 0, 0, 3, 0, 0, 4, 0, 4, 0, 4, 0, 0, 0, 0, 1, 1, 0, 1, 0, 1, 1, 1, 0, 1, 0, 1, 1, 1, 1, 1, 5, 6, 2, 4, 3, 0, 1, 2, 2, 1]
noncomputable def mk0n_e (w : World) : List (Of Ent) := [fun ρ _ => entC (o919 w.params) 919 (ρ 0) [(⟨⟨[114, 111, 119]⟩⟩, ρ 1)]]
noncomputable def mk0c_h : List Nat := [0, 0, 2, 1, 1, 0, 2, 0, 1, 0, 1, 1, 5, 1, 0, 1, 2, 0, 5, 4, 2, 2, 1, 0, 0, 0, 0, 3, 0, 0, 4, 0, 4, 0, 4, 0, 0, 0, 0, 1, 1, 0, 1, 0, 1, 1, 1, 0, 1, 0, 1, 1, 1, 1, 1, 5, 6, 2, 4, 3, 0, 1, 2, 2, 1]
noncomputable def mk0c_e (w : World) : List (Of Ent) := [fun ρ _ => entC (o919 w.params) 919 (ρ 0) [(⟨⟨[114, 111, 119]⟩⟩, ρ 1)]]
noncomputable def mk1n_h : List Nat := [0, 0, 2, 1, 1, 0, 2, 0, 1, 0, 1, 1, 5, 1, 0, 1, 2, 0, 5, 4, 2, 0, 0, 0, 0, 3, 0, 0, 4, 0, 4, 0, 4, 0, 0, 0, 0, 1, 1, 0, 1, 0, 1, 1, 1, 0, 1, 0, 1, 1, 1, 1, 1, 5, 6, 2, 4, 3, 0, 1, 2, 2, 1]
noncomputable def mk1n_e (w : World) : List (Of Ent) := [fun ρ _ => entC (o919 w.params) 919 (ρ 0) [(⟨⟨[114, 111, 119]⟩⟩, ρ 1)]]
noncomputable def mk1c_h : List Nat := [0, 0, 2, 1, 1, 0, 2, 0, 1, 0, 1, 1, 5, 1, 0, 1, 2, 0, 5, 4, 2, 2, 1, 0, 0, 0, 0, 3, 0, 0, 4, 0, 4, 0, 4, 0, 0, 0, 0, 1, 1, 0, 1, 0, 1, 1, 1, 0, 1, 0, 1, 1, 1, 1, 1, 5, 6, 2, 4, 3, 0, 1, 2, 2, 1]
noncomputable def mk1c_e (w : World) : List (Of Ent) := [fun ρ _ => entC (o919 w.params) 919 (ρ 0) [(⟨⟨[114, 111, 119]⟩⟩, ρ 1)]]
noncomputable def mk2n_h : List Nat := [0, 0, 2, 1, 1, 0, 2, 0, 1, 0, 1, 1, 5, 1, 0, 1, 2, 0, 5, 4, 2, 0, 0, 0, 0, 3, 0, 0, 4, 0, 4, 0, 4, 0, 0, 0, 0, 1, 1, 0, 1, 0, 1, 1, 1, 0, 1, 0, 1, 1, 1, 1, 1, 5, 6, 2, 4, 3, 0, 1, 2, 2, 1]
noncomputable def mk2n_e (w : World) : List (Of Ent) := [fun ρ _ => entC (o919 w.params) 919 (ρ 0) [(⟨⟨[114, 111, 119]⟩⟩, ρ 1)]]
noncomputable def mk2c_h : List Nat := [0, 0, 2, 1, 1, 0, 2, 0, 1, 0, 1, 1, 5, 1, 0, 1, 2, 0, 5, 4, 2, 2, 1, 0, 0, 0, 0, 3, 0, 0, 4, 0, 4, 0, 4, 0, 0, 0, 0, 1, 1, 0, 1, 0, 1, 1, 1, 0, 1, 0, 1, 1, 1, 1, 1, 5, 6, 2, 4, 3, 0, 1, 2, 2, 1]
noncomputable def mk2c_e (w : World) : List (Of Ent) := [fun ρ _ => entC (o919 w.params) 919 (ρ 0) [(⟨⟨[114, 111, 119]⟩⟩, ρ 1)]]
noncomputable def mk3n_h : List Nat := [0, 0, 2, 1, 1, 0, 2, 0, 1, 0, 1, 1, 5, 1, 0, 1, 2, 0, 5, 4, 2, 0, 0, 0, 0, 3, 0, 0, 4, 0, 4, 0, 4, 0, 0, 0, 0, 1, 1, 0, 1, 0, 1, 1, 1, 0, 1, 0, 1, 1, 1, 1, 1, 5, 6, 2, 4, 3, 0, 1, 2, 2, 1]
noncomputable def mk3n_e (w : World) : List (Of Ent) := [fun ρ _ => entC (o919 w.params) 919 (ρ 0) [(⟨⟨[114, 111, 119]⟩⟩, ρ 1)]]
noncomputable def mk3c_h : List Nat := [0, 0, 2, 1, 1, 0, 2, 0, 1, 0, 1, 1, 5, 1, 0, 1, 2, 0, 5, 4, 2, 2, 1, 0, 0, 0, 0, 3, 0, 0, 4, 0, 4, 0, 4, 0, 0, 0, 0, 1, 1, 0, 1, 0, 1, 1, 1, 0, 1, 0, 1, 1, 1, 1, 1, 5, 6, 2, 4, 3, 0, 1, 2, 2, 1]
noncomputable def mk3c_e (w : World) : List (Of Ent) := [fun ρ _ => entC (o919 w.params) 919 (ρ 0) [(⟨⟨[114, 111, 119]⟩⟩, ρ 1)]]
noncomputable def mk4n_h : List Nat := [0, 0, 2, 1, 1, 0, 2, 0, 1, 0, 1, 1, 5, 1, 0, 1, 2, 0, 5, 4, 2, 0, 0, 0, 0, 3, 0, 0, 4, 0, 4, 0, 4, 0, 0, 0, 0, 1, 1, 0, 1, 0, 1, 1, 1, 0, 1, 0, 1, 1, 1, 1, 1, 5, 6, 2, 4, 3, 0, 1, 2, 2, 1]
noncomputable def mk4n_e (w : World) : List (Of Ent) := [fun ρ _ => entC (o919 w.params) 919 (ρ 0) [(⟨⟨[114, 111, 119]⟩⟩, ρ 1)]]
noncomputable def mk4c_h : List Nat := [0, 0, 2, 1, 1, 0, 2, 0, 1, 0, 1, 1, 5, 1, 0, 1, 2, 0, 5, 4, 2, 2, 1, 0, 0, 0, 0, 3, 0, 0, 4, 0, 4, 0, 4, 0, 0, 0, 0, 1, 1, 0, 1, 0, 1, 1, 1, 0, 1, 0, 1, 1, 1, 1, 1, 5, 6, 2, 4, 3, 0, 1, 2, 2, 1]
noncomputable def mk4c_e (w : World) : List (Of Ent) := [fun ρ _ => entC (o919 w.params) 919 (ρ 0) [(⟨⟨[114, 111, 119]⟩⟩, ρ 1)]]
end Mine
end
section
open PySem PySem.W PySem.W.X PyProof.Rows PySem.Builtin PySem.Builtin.Str
set_option Elab.async false
set_option maxRecDepth 100000
set_option linter.unusedVariables false
namespace Mine
section
variable (w : World) (b c : Bool) (ρ : Nat → Addr) (τ : Nat → Tok) (E : Nat → Tok) (L hc C it acc q : Addr) (x : List Nat) (tx : Tok) (row : List (Nat × Tok)) (rn : Nat) (vs : List Value) (m i k l d : Nat) (th : Tok) (cc : Nat) (k1 : Tok) (v1 : Value)
theorem mt0_run : Both (runOf (wF w b c) ρ τ 100 (mtZ (PW w b c) L hc C it acc q x tx row rn (fun τ => τ 1) vs m i cc) mt0_h (mtK it acc q x tx row rn vs m i cc) (mt0_e (wF w b c)) 11 (mtC (PW w b c) L hc C it acc) (mtD hc C it acc q x tx row rn (dictN [] 0) vs m i)) := by cases b <;> exact both_of (by kernel_rfl)
theorem mt1_run : Both (runOf (wF w b c) ρ τ 100 (mtZ (PW w b c) L hc C it acc q x tx row rn (fun _ => k1) vs m i cc) mt1_h (mtK it acc q x tx row rn vs m i cc) (mt1_e (wF w b c)) 11 (mtC (PW w b c) L hc C it acc) (mtD hc C it acc q x tx row rn (dictN (sgnE (PW w b c) k1 v1) 1) vs m i)) := by cases b <;> exact both_of (by kernel_rfl)
theorem mte_run (cd : Obj) : Both (runOf (wF w b c) ρ τ 100 (mtY hc C acc q row rn cd vs m) mte_h (mtE it x tx) (mte_e (wF w b c)) 11 (mtC (PW w b c) L hc C it acc) (mtD hc C it acc q x tx row rn cd vs m x.length)) := by cases b <;> exact both_of (by kernel_rfl)
theorem mlq0_run (r : List (Nat × Tok)) : Both (runOf (wF w b c) ρ τ 200 (mlZq (PW w b c) E L hc it acc q x tx row rn (fun τ => τ 1) vs m k l r) mlq0_h (mlKq it acc q row rn vs m k l th r) (mlq0_e (wF w b c)) 10 (mlC (PW w b c) L hc it) (mlD (PW w b c) E L hc it acc q x tx row rn [] vs m k (l + 1))) := by cases b <;> exact both_of (by kernel_rfl)
theorem mln0_run : Both (runOf (wF w b c) ρ τ 200 (mlZn (PW w b c) E L hc it acc q x tx row rn (fun τ => τ 1) vs m k l) mln0_h (mlKn it q row rn k l d th) (mln0_e (wF w b c)) 10 (mlC (PW w b c) L hc it) (mlD (PW w b c) E L hc it acc q x tx row rn [] vs m k (l + 1))) := by cases b <;> exact both_of (by kernel_rfl)
theorem mlq1_run (r : List (Nat × Tok)) : Both (runOf (wF w b c) ρ τ 200 (mlZq (PW w b c) E L hc it acc q x tx row rn (fun _ => k1) vs m k l r) mlq1_h (mlKq it acc q row rn vs m k l th r) (mlq1_e (wF w b c)) 10 (mlC (PW w b c) L hc it) (mlD (PW w b c) E L hc it acc q x tx row rn (kkE (PW w b c) k1 v1) vs m k (l + 1))) := by cases b <;> exact both_of (by kernel_rfl)
theorem mln1_run : Both (runOf (wF w b c) ρ τ 200 (mlZn (PW w b c) E L hc it acc q x tx row rn (fun _ => k1) vs m k l) mln1_h (mlKn it q row rn k l d th) (mln1_e (wF w b c)) 10 (mlC (PW w b c) L hc it) (mlD (PW w b c) E L hc it acc q x tx row rn (kkE (PW w b c) k1 v1) vs m k (l + 1))) := by cases b <;> exact both_of (by kernel_rfl)
theorem mlx_run (h : List DictEntry) : Both (runOf (wF w b c) ρ τ 200 (mlZx (PW w b c) E L acc q x tx row rn h vs m) mlx_h [] (mlx_e (wF w b c)) 10 (mlC (PW w b c) L hc it) (mlD (PW w b c) E L hc it acc q x tx row rn h vs m k 0)) := by cases b <;> exact both_of (by kernel_rfl)
theorem mk0n_run : Both (runOf (wF w b c) ρ τ 300 (mkZ [] q [] rn 10) mk0n_h (mkK (PW w b c) [] tx q [] rn 0 6) (mk0n_e (wF w b c)) 16 (.call (.ref 919) ⟨[sv [] tx, .ref q], []⟩) [(q, sqO "list" (rwV []) rn)]) := by cases b <;> exact both_of (by kernel_rfl)
theorem mk0c_run : Both (runOf (wF w b c) ρ τ 300 (mkZ (cc :: x) q [] rn 10) mk0c_h (mkK (PW w b c) (cc :: x) tx q [] rn 0 6) (mk0c_e (wF w b c)) 16 (.call (.ref 919) ⟨[sv (cc :: x) tx, .ref q], []⟩) [(q, sqO "list" (rwV []) rn)]) := by cases b <;> exact both_of (by kernel_rfl)
theorem mk1n_run (p0 : Nat × Tok) : Both (runOf (wF w b c) ρ τ 300 (mkZ [] q [p0] rn 10) mk1n_h (mkK (PW w b c) [] tx q [p0] rn 1 6) (mk1n_e (wF w b c)) 16 (.call (.ref 919) ⟨[sv [] tx, .ref q], []⟩) [(q, sqO "list" (rwV [p0]) rn)]) := by cases b <;> exact both_of (by kernel_rfl)
theorem mk1c_run (p0 : Nat × Tok) : Both (runOf (wF w b c) ρ τ 300 (mkZ (cc :: x) q [p0] rn 10) mk1c_h (mkK (PW w b c) (cc :: x) tx q [p0] rn 1 6) (mk1c_e (wF w b c)) 16 (.call (.ref 919) ⟨[sv (cc :: x) tx, .ref q], []⟩) [(q, sqO "list" (rwV [p0]) rn)]) := by cases b <;> exact both_of (by kernel_rfl)
theorem mk2n_run (p0 p1 : Nat × Tok) : Both (runOf (wF w b c) ρ τ 300 (mkZ [] q [p0, p1] rn 10) mk2n_h (mkK (PW w b c) [] tx q [p0, p1] rn 2 6) (mk2n_e (wF w b c)) 16 (.call (.ref 919) ⟨[sv [] tx, .ref q], []⟩) [(q, sqO "list" (rwV [p0, p1]) rn)]) := by cases b <;> exact both_of (by kernel_rfl)
theorem mk2c_run (p0 p1 : Nat × Tok) : Both (runOf (wF w b c) ρ τ 300 (mkZ (cc :: x) q [p0, p1] rn 10) mk2c_h (mkK (PW w b c) (cc :: x) tx q [p0, p1] rn 2 6) (mk2c_e (wF w b c)) 16 (.call (.ref 919) ⟨[sv (cc :: x) tx, .ref q], []⟩) [(q, sqO "list" (rwV [p0, p1]) rn)]) := by cases b <;> exact both_of (by kernel_rfl)
theorem mk3n_run (p0 p1 p2 : Nat × Tok) : Both (runOf (wF w b c) ρ τ 300 (mkZ [] q [p0, p1, p2] rn 10) mk3n_h (mkK (PW w b c) [] tx q [p0, p1, p2] rn 3 6) (mk3n_e (wF w b c)) 16 (.call (.ref 919) ⟨[sv [] tx, .ref q], []⟩) [(q, sqO "list" (rwV [p0, p1, p2]) rn)]) := by cases b <;> exact both_of (by kernel_rfl)
theorem mk3c_run (p0 p1 p2 : Nat × Tok) : Both (runOf (wF w b c) ρ τ 300 (mkZ (cc :: x) q [p0, p1, p2] rn 10) mk3c_h (mkK (PW w b c) (cc :: x) tx q [p0, p1, p2] rn 3 6) (mk3c_e (wF w b c)) 16 (.call (.ref 919) ⟨[sv (cc :: x) tx, .ref q], []⟩) [(q, sqO "list" (rwV [p0, p1, p2]) rn)]) := by cases b <;> exact both_of (by kernel_rfl)
theorem mk4n_run (p0 p1 p2 p3 : Nat × Tok) : Both (runOf (wF w b c) ρ τ 300 (mkZ [] q [p0, p1, p2, p3] rn 10) mk4n_h (mkK (PW w b c) [] tx q [p0, p1, p2, p3] rn 4 6) (mk4n_e (wF w b c)) 16 (.call (.ref 919) ⟨[sv [] tx, .ref q], []⟩) [(q, sqO "list" (rwV [p0, p1, p2, p3]) rn)]) := by cases b <;> exact both_of (by kernel_rfl)
theorem mk4c_run (p0 p1 p2 p3 : Nat × Tok) : Both (runOf (wF w b c) ρ τ 300 (mkZ (cc :: x) q [p0, p1, p2, p3] rn 10) mk4c_h (mkK (PW w b c) (cc :: x) tx q [p0, p1, p2, p3] rn 4 6) (mk4c_e (wF w b c)) 16 (.call (.ref 919) ⟨[sv (cc :: x) tx, .ref q], []⟩) [(q, sqO "list" (rwV [p0, p1, p2, p3]) rn)]) := by cases b <;> exact both_of (by kernel_rfl)
end
end Mine
end
section
open PySem PySem.W PySem.W.X PyProof.Rows PySem.Builtin PySem.Builtin.Str
set_option Elab.async false
set_option maxRecDepth 100000
set_option linter.unusedVariables false
namespace Mine
section
variable {w : World} {b c : Bool} {E : Nat → Tok} {L hc C it acc q : Addr} {x : List Nat} {tx : Tok} {row : List (Nat × Tok)} {rn : Nat} {P : Result → Dyn → Prop}
theorem sh_small {row : List (Nat × Tok)} {q : Addr} {n : Nat} {cc : Nat} {t : Tok} (hs : ∀ p ∈ row, Hand p.1) (hn : row.length ≤ 4) : Cut.Ok (VW (wF w b c)) (kSh q [cc] t row n) :=
  kSh_ok hs (good1 cc) (Nat.le_trans (show [cc].length + 8 + row.length * 5 ≤ 100 by simp only [List.length_cons, List.length_nil]; omega) (by decide))
theorem mt_turn {vs : List Value} {m i cc : Nat} {cd : Obj} (hs : ∀ p ∈ row, Hand p.1) (hn : row.length ≤ 4) (hcd : cd = dictN [] 0 ∨ ∃ k v, cd = dictN (sgnE (PW w b c) k v) 1) (hv : x[i]? = some cc) (hm : vs.length ≤ 1000)
    (next : ∀ (k t u : Tok), Spec (VW (wF w b c)) none 11 (mtC (PW w b c) L hc C it acc) (mtD hc C it acc q x tx row rn (dictN (sgnE (PW w b c) k (sv [cc] t)) 1) (vs ++ [sv (shN (row.map (·.1)) [cc]) u]) (m + 1) (i + 1)) P) :
    Spec (VW (wF w b c)) none 11 (mtC (PW w b c) L hc C it acc) (mtD hc C it acc q x tx row rn cd vs m i) P := by
  have ks : Oks (wF w b c) (mtK it acc q x tx row rn vs m i cc) := .cons (fun _ _ => kSN_ok hv) <| .cons (fun _ _ => sh_small hs hn) <| .cons (fun _ _ => kLP_ok (Nat.le_trans hm (by decide))) .nil
  rcases hcd with rfl | ⟨k, v, rfl⟩
  · exact spec_run (fun ρ τ => mt0_run w b c ρ τ L hc C it acc q x tx row rn vs m i cc) ks fun ρ τ => next _ _ _
  · exact spec_run (fun ρ τ => mt1_run w b c ρ τ L hc C it acc q x tx row rn vs m i cc k v) ks fun ρ τ => next _ _ _
theorem mt_mid (hs : ∀ p ∈ row, Hand p.1) (hn : row.length ≤ 4) : ∀ (rest done : List Nat) (k : Tok) (v : List Nat × Tok) (ys : Sts) (m : Nat), x = done ++ rest → ys.length + rest.length ≤ 1000 →
    Spec (VW (wF w b c)) none 11 (mtC (PW w b c) L hc C it acc) (mtD hc C it acc q x tx row rn (dictN (sgnE (PW w b c) k (sv v.1 v.2)) 1) (vsO ys) m done.length)
      fun r D => ∃ (zs : Sts) (k' : Tok) (v' : List Nat × Tok), zs.map (·.1) = rest.map (fun c => shN (row.map (·.1)) [c]) ∧ r = .ok .next ∧ D = [(acc, listN (vsO (ys ++ zs)) (m + rest.length)), (C, dictN (sgnE (PW w b c) k' (sv v'.1 v'.2)) 1), (hc, cellO (some (.ref q))), (q, sqO "list" (rwV row) rn)]
  | [], done, k, v, ys, m, e, _ => by
    rw [List.append_nil] at e
    subst e
    exact spec_run (fun ρ τ => mte_run w b c ρ τ L hc C it acc q x tx row rn (vsO ys) m _) (Oks.cons (fun _ _ => kSX_ok) .nil) fun ρ τ => ⟨[], k, v, rfl, rfl, by rw [List.append_nil]; rfl⟩
  | s :: rest, done, k, v, ys, m, e, hb => by
    simp only [List.length_cons] at hb
    refine mt_turn hs hn (.inr ⟨k, _, rfl⟩) (cc := s) (by rw [e]; simp) (by rw [vsO_len']; omega) fun k' t u => ?_
    have ih := mt_mid hs hn rest (done ++ [s]) k' ([s], t) (ys ++ [(shN (row.map (·.1)) [s], u)]) (m + 1) (by rw [e]; simp) (by simp; omega)
    have eL : (done ++ [s]).length = done.length + 1 := by simp
    have e3 : vsO (ys ++ [(shN (row.map (·.1)) [s], u)]) = vsO ys ++ [sv (shN (row.map (·.1)) [s]) u] := vsO_app ys _
    rw [eL, e3] at ih
    refine ih.mono (Nat.le_refl _) fun r D h => ?_
    obtain ⟨zs, k', v', hz, rfl, rfl⟩ := h
    refine ⟨(shN (row.map (·.1)) [s], u) :: zs, k', v', by rw [List.map_cons, List.map_cons, hz], rfl, ?_⟩
    rw [List.append_assoc, show m + 1 + rest.length = m + (s :: rest).length by simp; omega]
    rfl
theorem kMT_ok (hs : ∀ p ∈ row, Hand p.1) (hn : row.length ≤ 4) (hx : x.length ≤ 1000) : Cut.Ok (VW (wF w b c)) (kMT (PW w b c) L hc C it acc q x tx row rn) := by
  have st : Spec (VW (wF w b c)) none 11 (mtC (PW w b c) L hc C it acc) (mtD hc C it acc q x tx row rn (dictN [] 0) [] 0 0) fun r D => ∃ (as : List Addr) (ts : List Tok), as.length = 0 ∧ ts.length = 4 ∧ r = .ok .next ∧
      D = [(acc, listN (vsO (zipT (x.map fun c => shN (row.map (·.1)) [c]) (unl (hd0 ts)))) x.length), (C, mtPost (PW w b c) x ts), (hc, cellO (some (.ref q))), (q, sqO "list" (rwV row) rn)] := by
    cases x with
    | nil => exact spec_run (fun ρ τ => mte_run w b c ρ τ L hc C it acc q [] tx row rn [] 0 _) (Oks.cons (fun _ _ => kSX_ok) .nil) fun ρ τ => ⟨[], [0, 0, 0, 0], rfl, rfl, rfl, rfl⟩
    | cons s rest =>
      simp only [List.length_cons] at hx
      refine mt_turn hs hn (.inl rfl) (cc := s) rfl (by decide) fun k' t u => ?_
      have ih := mt_mid (w := w) (b := b) (c := c) (L := L) (hc := hc) (C := C) (it := it) (acc := acc) (q := q) (tx := tx) (rn := rn) (x := s :: rest) hs hn rest [s] k' ([s], t) [(shN (row.map (·.1)) [s], u)] 1 rfl (by simp; omega)
      refine ih.mono (Nat.le_refl _) fun r D h => ?_
      obtain ⟨zs, k', v', hz, rfl, rfl⟩ := h
      obtain ⟨n, hn⟩ := zipT_any (zs := (shN (row.map (·.1)) [s], u) :: zs) (l := (s :: rest).map fun c => shN (row.map (·.1)) [c]) (by rw [List.map_cons, List.map_cons, hz])
      obtain ⟨n2, hn2⟩ := unl_all v'.1
      refine ⟨[], [n, k', n2, v'.2], rfl, rfl, rfl, ?_⟩
      show _ = [(acc, listN (vsO (zipT ((s :: rest).map fun c => shN (row.map (·.1)) [c]) (unl n))) (s :: rest).length), (C, dictN (sgnE (PW w b c) k' (sv (unl n2) v'.2)) 1), _, _]
      rw [hn, hn2, show 1 + rest.length = (s :: rest).length by simp; omega]
      rfl
  have cs := comp_start (w := w) (b := b) (c := c) (fr := none) (acc := .ref acc) (env := mtEnv (PW w b c) L hc C) (T := "str_ascii_iterator") (it := it) (fs := [sv x tx, .int (.ofNat 0) 0]) (k := 10) (R := [(acc, listN [] 0), (C, dictN [] 0), (hc, cellO (some (.ref q))), (q, sqO "list" (rwV row) rn)]) (.inr (.inl rfl))
    (st.ord (List.perm_append_comm (l₁ := [_]) (l₂ := [_, _, _, _])))
  refine (cs.ord (List.perm_append_comm (l₁ := [_, _, _, _]) (l₂ := [_]))).mono (Nat.le_refl _) fun r D h => ?_
  obtain ⟨as, ts, h1, h2, h3, h4⟩ := h
  refine ⟨as, ts, h1, h2, h3, ?_⟩
  rw [h4]
  match as, h1 with
  | [], _ => rfl
theorem rwV_drop : ∀ (done rest : List (Nat × Tok)), (rwV (done ++ rest)).drop done.length = rwV rest
  | [], _ => rfl
  | _ :: done, rest => rwV_drop done rest
noncomputable def MlP (P : Params) (E : Nat → Tok) (L acc q : Addr) (x : List Nat) (tx : Tok) (row : List (Nat × Tok)) (rn : Nat) (h : List DictEntry) (ys : Sts) (rest : List (Nat × Tok)) (r : Result) (D : Dyn) : Prop :=
  ∃ (zs : Sts) (h' : List DictEntry) (m' : Nat), zs.map (·.1) = mkQ (rest.map (·.1)) ∧ (rest = [] ∧ h' = h ∨ rest ≠ [] ∧ ∃ k t, h' = kkE P k (.int (.ofNat (row.length - 1)) t)) ∧ r = .ok .next ∧ D = [(L, mkF P E x tx acc h'), (acc, listN (vsO (ys ++ zs)) m'), (q, sqO "list" (rwV row) rn)]
theorem ml_all : ∀ (rest done : List (Nat × Tok)) (h : List DictEntry) (ys : Sts) (m : Nat), row = done ++ rest → (∀ p ∈ row, Hand p.1) → row.length ≤ 4 → ys.length + rest.length ≤ 1000 → (h = [] ∧ done = [] ∨ ∃ k v, h = kkE (PW w b c) k v) →
    Spec (VW (wF w b c)) none 10 (mlC (PW w b c) L hc it) (mlD (PW w b c) E L hc it acc q x tx row rn h (vsO ys) m done.length rest.length)
      (MlP (PW w b c) E L acc q x tx row rn h ys rest)
  | [], done, h, ys, m, e, _, _, _, _ =>
    spec_run (fun ρ τ => mlx_run w b c ρ τ E L hc it acc q x tx row rn (vsO ys) m done.length h) Oks.nil fun ρ τ => ⟨[], h, m, rfl, .inl ⟨rfl, rfl⟩, rfl, by rw [List.append_nil]; rfl⟩
  | s :: rest, done, h, ys, m, e, hs, hn, hb, hh => by
    simp only [List.length_cons] at hb
    have hlen : row.length = done.length + (rest.length + 1) := by rw [e]; simp
    have e0 : (rwV row)[done.length]? = some (sv [s.1] s.2) := by rw [e]; exact rwV_get done s rest
    have eA : row = (done ++ [s]) ++ rest := by rw [e]; simp
    have eL : (done ++ [s]).length = done.length + 1 := by simp
    have hsr : ∀ p ∈ rest, Hand p.1 := fun p hp => hs p (by rw [e]; simp [hp])
    have last : ∀ (k t : Tok) h', (rest = [] ∧ h' = kkE (PW w b c) k (.int (.ofNat done.length) t) ∨ rest ≠ [] ∧ ∃ k t, h' = kkE (PW w b c) k (.int (.ofNat (row.length - 1)) t)) → (s :: rest = [] ∧ h' = h ∨ s :: rest ≠ [] ∧ ∃ k t, h' = kkE (PW w b c) k (.int (.ofNat (row.length - 1)) t)) := by
      intro k t h' hl
      rcases hl with ⟨rfl, rfl⟩ | hl
      · refine .inr ⟨by simp, k, t, ?_⟩
        rw [hlen]
        rfl
      · exact .inr ⟨by simp, hl.2⟩
    by_cases hq : s.1 = 113
    · have e0q : (rwV row)[done.length]? = some (sv [113] s.2) := by rw [e0, hq]
      have pk : slicePick ⟨rwV row⟩ (((some (((Int.ofNat (done.length + 1)) : Int), (0 : Tok))).map (·.1))) ((none : Option (Int × Tok)).map (·.1)) none = ⟨rwV rest⟩ := by
        have := pick_drop (rwV row) (done.length + 1) (by rw [rwV_len, hlen]; omega)
        have e2 : (rwV row).drop (done.length + 1) = rwV rest := by
          have := rwV_drop (done ++ [s]) rest
          rw [eL] at this
          rw [← this, ← eA]
        rw [e2] at this
        exact this
      have ks : Oks (wF w b c) (mlKq it acc q row rn (vsO ys) m done.length rest.length s.2 rest) := .cons (fun _ _ => kRN_ok) <| .cons (fun _ _ => kLG_ok e0q (by omega)) <| .cons (fun _ _ => seq_is (by decide)) <| .cons (fun _ _ => ia_ok rfl) <|
        .cons (fun _ _ => kLS_ok pk (by rw [rwV_len]; exact Nat.le_trans (show row.length ≤ 4 from hn) (by decide))) <| .cons (fun _ _ => sh_small hsr (by omega)) <| .cons (fun _ _ => kLP_ok (by rw [vsO_len']; exact Nat.le_trans (show ys.length ≤ 1000 by omega) (by decide))) .nil
      have fin : ∀ (k t u : Tok), Spec (VW (wF w b c)) none 10 (mlC (PW w b c) L hc it) (mlD (PW w b c) E L hc it acc q x tx row rn (kkE (PW w b c) k (.int (.ofNat done.length) t)) (vsO ys ++ [sv (shN (rest.map (·.1)) [34]) u]) (m + 1) (done.length + 1) rest.length) (MlP (PW w b c) E L acc q x tx row rn h ys (s :: rest)) := fun k t u => by
        have ih := ml_all rest (done ++ [s]) (kkE (PW w b c) k (.int (.ofNat done.length) t)) (ys ++ [(shN (rest.map (·.1)) [34], u)]) (m + 1) eA hs hn (by simp; omega) (.inr ⟨_, _, rfl⟩)
        have e3 : vsO (ys ++ [(shN (rest.map (·.1)) [34], u)]) = vsO ys ++ [sv (shN (rest.map (·.1)) [34]) u] := vsO_app ys _
        rw [eL, e3] at ih
        exact ih.mono (Nat.le_refl _) fun r D hD => by
          obtain ⟨zs, h', m', hz, hh', rfl, rfl⟩ := hD
          exact ⟨(shN (rest.map (·.1)) [34], u) :: zs, h', m', by
            show shN (rest.map (·.1)) [34] :: zs.map (·.1) = (if s.1 = 113 then shN (rest.map (·.1)) [34] :: mkQ (rest.map (·.1)) else _)
            rw [if_pos hq, hz], last k t h' hh', rfl, by rw [List.append_assoc]; rfl⟩
      rcases hh with ⟨rfl, _⟩ | ⟨k, v, rfl⟩
      · exact spec_run (fun ρ τ => mlq0_run w b c ρ τ E L hc it acc q x tx row rn (vsO ys) m done.length rest.length s.2 rest) ks fun ρ τ => fin _ _ _
      · exact spec_run (fun ρ τ => mlq1_run w b c ρ τ E L hc it acc q x tx row rn (vsO ys) m done.length rest.length s.2 k v rest) ks fun ρ τ => fin _ _ _
    · have ks : Oks (wF w b c) (mlKn it q row rn done.length rest.length s.1 s.2) := .cons (fun _ _ => kRN_ok) <| .cons (fun _ _ => kLG_ok e0 (by omega)) <| .cons (fun _ _ => seq_is (by simpa using hq)) .nil
      have fin : ∀ (k t : Tok), Spec (VW (wF w b c)) none 10 (mlC (PW w b c) L hc it) (mlD (PW w b c) E L hc it acc q x tx row rn (kkE (PW w b c) k (.int (.ofNat done.length) t)) (vsO ys) m (done.length + 1) rest.length) (MlP (PW w b c) E L acc q x tx row rn h ys (s :: rest)) := fun k t => by
        have ih := ml_all rest (done ++ [s]) (kkE (PW w b c) k (.int (.ofNat done.length) t)) ys m eA hs hn (by omega) (.inr ⟨_, _, rfl⟩)
        rw [eL] at ih
        exact ih.mono (Nat.le_refl _) fun r D hD => by
          obtain ⟨zs, h', m', hz, hh', rfl, rfl⟩ := hD
          exact ⟨zs, h', m', by
            show zs.map (·.1) = (if s.1 = 113 then _ else mkQ (rest.map (·.1)))
            rw [if_neg hq, hz], last k t h' hh', rfl, rfl⟩
      rcases hh with ⟨rfl, _⟩ | ⟨k, v, rfl⟩
      · exact spec_run (fun ρ τ => mln0_run w b c ρ τ E L hc it acc q x tx row rn (vsO ys) m done.length rest.length s.1 s.2) ks fun ρ τ => fin _ _
      · exact spec_run (fun ρ τ => mln1_run w b c ρ τ E L hc it acc q x tx row rn (vsO ys) m done.length rest.length s.1 s.2 k v) ks fun ρ τ => fin _ _
theorem kMl_ok {ys : Sts} {m n : Nat} (hn' : n = row.length) (hs : ∀ p ∈ row, Hand p.1) (hn : row.length ≤ 4) (hy : ys.length ≤ 900) : Cut.Ok (VW (wF w b c)) (kMl (PW w b c) E L hc it acc q x tx row rn ys m n) := by
  subst hn'
  refine (ml_all (w := w) (b := b) (c := c) (E := E) (L := L) (hc := hc) (it := it) (acc := acc) (q := q) (x := x) (tx := tx) (rn := rn) row [] [] ys m rfl hs hn (by omega) (.inl ⟨rfl, rfl⟩)).mono (Nat.le_refl _) fun r D h => ?_
  obtain ⟨zs, h', m', hz, hh, rfl, rfl⟩ := h
  obtain ⟨u, hu⟩ := zipT_any (zs := ys ++ zs) (l := ys.map (·.1) ++ mkQ (row.map (·.1))) (by rw [List.map_append, hz])
  cases row with
  | nil =>
    have e : h' = [] := by
      rcases hh with ⟨_, e⟩ | ⟨e, _⟩
      · exact e
      · exact absurd rfl e
    refine ⟨[], [0, 0, u, m'], rfl, rfl, rfl, ?_⟩
    show _ = [(L, mkF (PW w b c) E x tx acc []), (acc, listN (vsO (zipT (ys.map (·.1) ++ mkQ []) (unl u))) m'), (q, sqO "list" (rwV []) rn)]
    rw [e]
    rw [show zipT (ys.map (·.1) ++ mkQ []) (unl u) = ys ++ zs from hu]
    rfl
  | cons s rest =>
    rcases hh with ⟨e, _⟩ | ⟨_, k, t, rfl⟩
    · cases e
    · refine ⟨[], [k, t, u, m'], rfl, rfl, rfl, ?_⟩
      show _ = [(L, mkF (PW w b c) E x tx acc (kkE (PW w b c) k (.int (.ofNat rest.length) t))), (acc, listN (vsO (zipT (ys.map (·.1) ++ mkQ ((s :: rest).map (·.1))) (unl u))) m'), (q, sqO "list" (rwV (s :: rest)) rn)]
      rw [hu]
      rfl
end
theorem kMk_ok {w : World} {b c : Bool} {x : List Nat} {tx : Tok} {q : Addr} {row : List (Nat × Tok)} {rn : Nat} (ha : ∀ c ∈ x, c < 128) (hx : x.length ≤ 7) (hs : ∀ p ∈ row, Hand p.1) (hn : row.length ≤ 4) : Cut.Ok (VW (wF w b c)) (kMk x tx q row rn) := by
  have ks : Oks (wF w b c) (mkK (PW w b c) x tx q row rn row.length 6) := .cons (fun _ _ => kSI_ok ha) <| .cons (fun _ _ => kMT_ok hs hn (by omega)) <| .cons (fun ρ τ => kMl_ok rfl hs hn (by
    have := congrArg List.length (zipT_map (x.map fun c => shN (row.map (·.1)) [c]) (unl (τ 1)))
    rw [List.length_map, List.length_map] at this
    show (zipT _ _).length ≤ 900
    omega)) .nil
  have fin : ∀ (ρ : Nat → Addr) (τ : Nat → Tok), ∃ (as : List Addr) (ts : List Tok), as.length = 1 ∧ ts.length = 2 ∧ (.ok (.ret (.ref (ρ 3))) : Result) = .ok (.ret (.ref (hd0 as))) ∧ (mkZ x q row rn 10 ρ τ).picks = [(q, sqO "list" (rwV row) rn)] ++ zipAO as [listN (vsO (zipT (mkN (row.map (·.1)) x) (unl (hd0 ts)))) (hd1 ts)] ++ [] := fun ρ τ => by
    refine ⟨[ρ 3], [τ 12, τ 13], rfl, rfl, rfl, ?_⟩
    have e : (mkYs x row (τ 1)).map (·.1) = x.map fun c => shN (row.map (·.1)) [c] := zipT_map _ _
    show [(q, sqO "list" (rwV row) rn), (ρ 3, listN (vsO (zipT ((mkYs x row (τ 1)).map (·.1) ++ mkQ (row.map (·.1))) (unl (τ 12)))) (τ 13))] = _
    rw [e]
    rfl
  match row, hn, ks, fin with
  | [], _, ks, fin => cases x with
    | nil => exact spec_run (fun ρ τ => mk0n_run w b c ρ τ q tx rn) ks fin
    | cons cc x => exact spec_run (fun ρ τ => mk0c_run w b c ρ τ q x tx rn cc) ks fin
  | [p0], _, ks, fin => cases x with
    | nil => exact spec_run (fun ρ τ => mk1n_run w b c ρ τ q tx rn p0) ks fin
    | cons cc x => exact spec_run (fun ρ τ => mk1c_run w b c ρ τ q x tx rn cc p0) ks fin
  | [p0, p1], _, ks, fin => cases x with
    | nil => exact spec_run (fun ρ τ => mk2n_run w b c ρ τ q tx rn p0 p1) ks fin
    | cons cc x => exact spec_run (fun ρ τ => mk2c_run w b c ρ τ q x tx rn cc p0 p1) ks fin
  | [p0, p1, p2], _, ks, fin => cases x with
    | nil => exact spec_run (fun ρ τ => mk3n_run w b c ρ τ q tx rn p0 p1 p2) ks fin
    | cons cc x => exact spec_run (fun ρ τ => mk3c_run w b c ρ τ q x tx rn cc p0 p1 p2) ks fin
  | [p0, p1, p2, p3], _, ks, fin => cases x with
    | nil => exact spec_run (fun ρ τ => mk4n_run w b c ρ τ q tx rn p0 p1 p2 p3) ks fin
    | cons cc x => exact spec_run (fun ρ τ => mk4c_run w b c ρ τ q x tx rn cc p0 p1 p2 p3) ks fin
  | _ :: _ :: _ :: _ :: _ :: _, hn, _, _ => simp at hn
end Mine
end
section
open PySem PySem.W PySem.W.X PyProof.Rows
set_option Elab.async false
set_option maxRecDepth 100000
set_option linter.unusedVariables false
namespace Mine
noncomputable def sg0_0_h : List Nat := [4, 0, 4, 1, 1, 3, 3, 2, 4, 3, 0, 0, 0, 1, 0, 0, 1, 0, 0, 1, 0, 2, 4, 1, 1, 1, 0]
noncomputable def sg0_0_e (w : World) : List (Of Ent) := []
noncomputable def sg1_0_h : List Nat := [4, 0, 4, 1, 1, 3, 3, 2, 4, 3, 0, 0, 0, 1, 0, 0, 1, 0, 0, 1, 0, 3, 0, 0, 0, 2, 1, 1, 1, 2, 4, 0, 1, 1, 0]
noncomputable def sg1_0_e (w : World) : List (Of Ent) := []
noncomputable def sg0_1_h : List Nat := [4, 0, 4, 1, 1, 3, 3, 2, 4, 3, 0, 0, 0, 1, 0, 0, 1, 0, 0, 1, 0, 2, 4, 1, 1, 1, 0]
noncomputable def sg0_1_e (w : World) : List (Of Ent) := []
noncomputable def sg1_1_h : List Nat := [4, 0, 4, 1, 1, 3, 3, 2, 4, 3, 0, 0, 0, 1, 0, 0, 1, 0, 0, 1, 0, 3, 0, 0, 0, 2, 1, 1, 1, 2, 4, 0, 1, 1, 0]
noncomputable def sg1_1_e (w : World) : List (Of Ent) := []
noncomputable def sg0_2_h : List Nat := [4, 0, 4, 1, 1, 3, 3, 2, 4, 3, 0, 0, 0, 1, 0, 0, 1, 0, 0, 1, 0, 2, 4, 1, 1, 1, 0]
noncomputable def sg0_2_e (w : World) : List (Of Ent) := []
noncomputable def sg1_2_h : List Nat := [4, 0, 4, 1, 1, 3, 3, 2, 4, 3, 0, 0, 0, 1, 0, 0, 1, 0, 0, 1, 0, 3, 0, 0, 0, 2, 1, 1, 1, 2, 4, 0, 1, 1, 0]
noncomputable def sg1_2_e (w : World) : List (Of Ent) := []
noncomputable def sg0_3_h : List Nat := [4, 0, 4, 1, 1, 3, 3, 2, 4, 3, 0, 0, 0, 1, 0, 0, 1, 0, 0, 1, 0, 2, 4, 1, 1, 1, 0]
noncomputable def sg0_3_e (w : World) : List (Of Ent) := []
noncomputable def sg1_3_h : List Nat := [4, 0, 4, 1, 1, 3, 3, 2, 4, 3, 0, 0, 0, 1, 0, 0, 1, 0, 0, 1, 0, 3, 0, 0, 0, 2, 1, 1, 1, 2, 4, 0, 1, 1, 0]
noncomputable def sg1_3_e (w : World) : List (Of Ent) := []
noncomputable def sg0_4_h : List Nat := [4, 0, 4, 1, 1, 3, 3, 2, 4, 3, 0, 0, 0, 1, 0, 0, 1, 0, 0, 1, 0, 2, 4, 1, 1, 1, 0]
noncomputable def sg0_4_e (w : World) : List (Of Ent) := []
noncomputable def sg1_4_h : List Nat := [4, 0, 4, 1, 1, 3, 3, 2, 4, 3, 0, 0, 0, 1, 0, 0, 1, 0, 0, 1, 0, 3, 0, 0, 0, 2, 1, 1, 1, 2, 4, 0, 1, 1, 0]
noncomputable def sg1_4_e (w : World) : List (Of Ent) := []
noncomputable def sg0_5_h : List Nat := [4, 0, 4, 1, 1, 3, 3, 2, 4, 3, 0, 0, 0, 1, 0, 0, 1, 0, 0, 1, 0, 2, 4, 1, 1, 1, 0]
noncomputable def sg0_5_e (w : World) : List (Of Ent) := []
noncomputable def sg1_5_h : List Nat := [4, 0, 4, 1, 1, 3, 3, 2, 4, 3, 0, 0, 0, 1, 0, 0, 1, 0, 0, 1, 0, 3, 0, 0, 0, 2, 1, 1, 1, 2, 4, 0, 1, 1, 0]
noncomputable def sg1_5_e (w : World) : List (Of Ent) := []
noncomputable def sg0_6_h : List Nat := [4, 0, 4, 1, 1, 3, 3, 2, 4, 3, 0, 0, 0, 1, 0, 0, 1, 0, 0, 1, 0, 2, 4, 1, 1, 1, 0]
noncomputable def sg0_6_e (w : World) : List (Of Ent) := []
noncomputable def sg1_6_h : List Nat := [4, 0, 4, 1, 1, 3, 3, 2, 4, 3, 0, 0, 0, 1, 0, 0, 1, 0, 0, 1, 0, 3, 0, 0, 0, 2, 1, 1, 1, 2, 4, 0, 1, 1, 0]
noncomputable def sg1_6_e (w : World) : List (Of Ent) := []
noncomputable def sge_h : List Nat := [4, 0, 4, 0, 4, 4, 4, 1, 3, 2, 2, 2]
noncomputable def sge_e (w : World) : List (Of Ent) := []
end Mine
end
section
open PySem PySem.W PySem.W.X PyProof.Rows PySem.Builtin PySem.Builtin.Str
set_option Elab.async false
set_option maxRecDepth 100000
set_option linter.unusedVariables false
namespace Mine
section
variable (w : World) (b c : Bool) (ρ : Nat → Addr) (τ : Nat → Tok) (L tc C it acc : Addr) (t : Int) (tt : Tok) (vs : List Value) (m : Nat) (k1 : Tok) (v1 : Value)
theorem sg1_0_run : Both (runOf (wF w b c) ρ τ 200 (sgZ1 (PW w b c) L tc C it acc t tt (fun τ => τ 1) vs m 0 6) sg1_0_h (sgK1 it acc t tt vs m 0 6 1) (sg1_0_e (wF w b c)) 11 (sgC (PW w b c) L tc C it acc) (sgD tc C it acc t tt (dictN [] 0) vs m 0 7)) := by cases b <;> exact both_of (by kernel_rfl)
theorem sg0_0_run : Both (runOf (wF w b c) ρ τ 200 (sgZ0 (PW w b c) L tc C it acc t tt (fun τ => τ 1) vs m 0 6) sg0_0_h (sgK0 it t tt 0 6 1) (sg0_0_e (wF w b c)) 11 (sgC (PW w b c) L tc C it acc) (sgD tc C it acc t tt (dictN [] 0) vs m 0 7)) := by cases b <;> exact both_of (by kernel_rfl)
theorem sg1_1_run : Both (runOf (wF w b c) ρ τ 200 (sgZ1 (PW w b c) L tc C it acc t tt (fun _ => k1) vs m 1 5) sg1_1_h (sgK1 it acc t tt vs m 1 5 2) (sg1_1_e (wF w b c)) 11 (sgC (PW w b c) L tc C it acc) (sgD tc C it acc t tt (dictN (kkE (PW w b c) k1 v1) 1) vs m 1 6)) := by cases b <;> exact both_of (by kernel_rfl)
theorem sg0_1_run : Both (runOf (wF w b c) ρ τ 200 (sgZ0 (PW w b c) L tc C it acc t tt (fun _ => k1) vs m 1 5) sg0_1_h (sgK0 it t tt 1 5 2) (sg0_1_e (wF w b c)) 11 (sgC (PW w b c) L tc C it acc) (sgD tc C it acc t tt (dictN (kkE (PW w b c) k1 v1) 1) vs m 1 6)) := by cases b <;> exact both_of (by kernel_rfl)
theorem sg1_2_run : Both (runOf (wF w b c) ρ τ 200 (sgZ1 (PW w b c) L tc C it acc t tt (fun _ => k1) vs m 2 4) sg1_2_h (sgK1 it acc t tt vs m 2 4 4) (sg1_2_e (wF w b c)) 11 (sgC (PW w b c) L tc C it acc) (sgD tc C it acc t tt (dictN (kkE (PW w b c) k1 v1) 1) vs m 2 5)) := by cases b <;> exact both_of (by kernel_rfl)
theorem sg0_2_run : Both (runOf (wF w b c) ρ τ 200 (sgZ0 (PW w b c) L tc C it acc t tt (fun _ => k1) vs m 2 4) sg0_2_h (sgK0 it t tt 2 4 4) (sg0_2_e (wF w b c)) 11 (sgC (PW w b c) L tc C it acc) (sgD tc C it acc t tt (dictN (kkE (PW w b c) k1 v1) 1) vs m 2 5)) := by cases b <;> exact both_of (by kernel_rfl)
theorem sg1_3_run : Both (runOf (wF w b c) ρ τ 200 (sgZ1 (PW w b c) L tc C it acc t tt (fun _ => k1) vs m 3 3) sg1_3_h (sgK1 it acc t tt vs m 3 3 8) (sg1_3_e (wF w b c)) 11 (sgC (PW w b c) L tc C it acc) (sgD tc C it acc t tt (dictN (kkE (PW w b c) k1 v1) 1) vs m 3 4)) := by cases b <;> exact both_of (by kernel_rfl)
theorem sg0_3_run : Both (runOf (wF w b c) ρ τ 200 (sgZ0 (PW w b c) L tc C it acc t tt (fun _ => k1) vs m 3 3) sg0_3_h (sgK0 it t tt 3 3 8) (sg0_3_e (wF w b c)) 11 (sgC (PW w b c) L tc C it acc) (sgD tc C it acc t tt (dictN (kkE (PW w b c) k1 v1) 1) vs m 3 4)) := by cases b <;> exact both_of (by kernel_rfl)
theorem sg1_4_run : Both (runOf (wF w b c) ρ τ 200 (sgZ1 (PW w b c) L tc C it acc t tt (fun _ => k1) vs m 4 2) sg1_4_h (sgK1 it acc t tt vs m 4 2 16) (sg1_4_e (wF w b c)) 11 (sgC (PW w b c) L tc C it acc) (sgD tc C it acc t tt (dictN (kkE (PW w b c) k1 v1) 1) vs m 4 3)) := by cases b <;> exact both_of (by kernel_rfl)
theorem sg0_4_run : Both (runOf (wF w b c) ρ τ 200 (sgZ0 (PW w b c) L tc C it acc t tt (fun _ => k1) vs m 4 2) sg0_4_h (sgK0 it t tt 4 2 16) (sg0_4_e (wF w b c)) 11 (sgC (PW w b c) L tc C it acc) (sgD tc C it acc t tt (dictN (kkE (PW w b c) k1 v1) 1) vs m 4 3)) := by cases b <;> exact both_of (by kernel_rfl)
theorem sg1_5_run : Both (runOf (wF w b c) ρ τ 200 (sgZ1 (PW w b c) L tc C it acc t tt (fun _ => k1) vs m 5 1) sg1_5_h (sgK1 it acc t tt vs m 5 1 32) (sg1_5_e (wF w b c)) 11 (sgC (PW w b c) L tc C it acc) (sgD tc C it acc t tt (dictN (kkE (PW w b c) k1 v1) 1) vs m 5 2)) := by cases b <;> exact both_of (by kernel_rfl)
theorem sg0_5_run : Both (runOf (wF w b c) ρ τ 200 (sgZ0 (PW w b c) L tc C it acc t tt (fun _ => k1) vs m 5 1) sg0_5_h (sgK0 it t tt 5 1 32) (sg0_5_e (wF w b c)) 11 (sgC (PW w b c) L tc C it acc) (sgD tc C it acc t tt (dictN (kkE (PW w b c) k1 v1) 1) vs m 5 2)) := by cases b <;> exact both_of (by kernel_rfl)
theorem sg1_6_run : Both (runOf (wF w b c) ρ τ 200 (sgZ1 (PW w b c) L tc C it acc t tt (fun _ => k1) vs m 6 0) sg1_6_h (sgK1 it acc t tt vs m 6 0 64) (sg1_6_e (wF w b c)) 11 (sgC (PW w b c) L tc C it acc) (sgD tc C it acc t tt (dictN (kkE (PW w b c) k1 v1) 1) vs m 6 1)) := by cases b <;> exact both_of (by kernel_rfl)
theorem sg0_6_run : Both (runOf (wF w b c) ρ τ 200 (sgZ0 (PW w b c) L tc C it acc t tt (fun _ => k1) vs m 6 0) sg0_6_h (sgK0 it t tt 6 0 64) (sg0_6_e (wF w b c)) 11 (sgC (PW w b c) L tc C it acc) (sgD tc C it acc t tt (dictN (kkE (PW w b c) k1 v1) 1) vs m 6 1)) := by cases b <;> exact both_of (by kernel_rfl)
theorem sge_run (cd : Obj) : Both (runOf (wF w b c) ρ τ 200 (sgY tc C acc t tt cd vs m) sge_h [] (sge_e (wF w b c)) 11 (sgC (PW w b c) L tc C it acc) (sgD tc C it acc t tt cd vs m 7 0)) := by cases b <;> exact both_of (by kernel_rfl)
end
noncomputable def sgN (t : Int) (k : Nat) : List Nat := ((List.range k).filter (bitOf t)).map fun j => sgL.getD j 0
theorem fd_ok {w : World} {a e : Int} {t u : Tok} (h0 : e ≠ 0) (he : e.natAbs < 1073741824) : Cut.Ok (VW w) (kI "int.__floordiv__" [.int a t, .int e u] (a.fdiv e)) :=
  kI_ok F.slot_int_floordiv.plain F.entry_int_floordiv (AutoIntG4.int___floordiv___int_int_1 a t e u (by simpa using h0) (by rw [PyProof.noPylong_small he]; exact Bool.false_ne_true))
theorem md_ok {w : World} {a e : Int} {t u : Tok} (h0 : e ≠ 0) : Cut.Ok (VW w) (kI "int.__mod__" [.int a t, .int e u] (a.fmod e)) :=
  kI_ok F.slot_int_mod.plain F.entry_int_mod (AutoIntG6.int___mod___int_int_1 a t e u (by simpa using h0))
theorem ib_ok {w : World} {a : Int} {t : Tok} {r : Bool} (h : (a != 0) = r) : Cut.Ok (VW w) (kV "int.__bool__" [.int a t] (.bool r)) := by
  subst h
  exact kV_ok F.slot_int_bool.plain F.entry_int_bool (gives_int_bool a t)
section
variable {w : World} {b c : Bool} {L tc C it acc : Addr} {t : Int} {tt : Tok} {P : Result → Dyn → Prop}
theorem sg_step {k e l : Nat} {ys : Sts} {m : Nat} {cd : Obj} {kk : (Nat → Tok) → Tok} {h1 h0 : List Nat} {e1 e0 : List (Of Ent)} (he : (e : Int) = 2 ^ k) (he0 : e < 1000) (hy : ys.map (·.1) = (sgN t k).map fun c => [c]) (hl : ys.length ≤ 7)
    (H1 : ∀ ρ τ, Both (runOf (wF w b c) ρ τ 200 (sgZ1 (PW w b c) L tc C it acc t tt kk (vsO ys) m k l) h1 (sgK1 it acc t tt (vsO ys) m k l e) e1 11 (sgC (PW w b c) L tc C it acc) (sgD tc C it acc t tt cd (vsO ys) m k (l + 1))))
    (H0 : ∀ ρ τ, Both (runOf (wF w b c) ρ τ 200 (sgZ0 (PW w b c) L tc C it acc t tt kk (vsO ys) m k l) h0 (sgK0 it t tt k l e) e0 11 (sgC (PW w b c) L tc C it acc) (sgD tc C it acc t tt cd (vsO ys) m k (l + 1))))
    (next : ∀ (k' t' : Tok) (ys' : Sts) (m' : Nat), ys'.map (·.1) = ((sgN t (k + 1)).map fun c => [c]) → Spec (VW (wF w b c)) none 11 (sgC (PW w b c) L tc C it acc) (sgD tc C it acc t tt (dictN (kkE (PW w b c) k' (.int (.ofNat k) t')) 1) (vsO ys') m' (k + 1) l) P) :
    Spec (VW (wF w b c)) none 11 (sgC (PW w b c) L tc C it acc) (sgD tc C it acc t tt cd (vsO ys) m k (l + 1)) P := by
  have ee : (Int.ofNat e) = 2 ^ k := he
  have hN : ∀ r, bitOf t k = r → sgN t (k + 1) = sgN t k ++ (if r then [sgL.getD k 0] else []) := fun r hr => by
    unfold sgN
    rw [List.range_succ, List.filter_append, List.map_append, List.filter_cons, hr]
    cases r <;> rfl
  have p0 : (2 : Int) ^ k ≠ 0 := by have := Int.pow_pos (n := 2) (m := k) (by decide); omega
  have na : (Int.ofNat e).natAbs < 1073741824 := by show e < _; omega
  cases hb : bitOf t k with
  | true =>
    refine spec_run H1 (Oks.cons (fun _ _ => kRN_ok) <| .cons (fun _ _ => fd_ok (by rw [ee]; exact p0) na) <| .cons (fun _ _ => md_ok (by decide)) <| .cons (fun _ _ => ib_ok (by rw [ee]; exact hb)) <| .cons (fun _ _ => kLP_ok (by rw [vsO_len']; exact Nat.le_trans hl (by decide))) .nil) fun ρ τ => ?_
    have nx := next (kk τ) (τ 0) (ys ++ [([sgL.getD k 0], τ 8)]) (m + 1) (by rw [List.map_append, hy, hN true hb, List.map_append]; rfl)
    have e3 : vsO (ys ++ [([sgL.getD k 0], τ 8)]) = vsO ys ++ [sv [sgL.getD k 0] (τ 8)] := vsO_app ys _
    rw [e3] at nx
    exact nx
  | false =>
    refine spec_run H0 (Oks.cons (fun _ _ => kRN_ok) <| .cons (fun _ _ => fd_ok (by rw [ee]; exact p0) na) <| .cons (fun _ _ => md_ok (by decide)) <| .cons (fun _ _ => ib_ok (by rw [ee]; exact hb)) .nil) fun ρ τ => ?_
    exact next (kk τ) (τ 0) ys m (by rw [hy, hN false hb]; simp)
theorem sgN_len (t : Int) : ∀ k, (sgN t k).length ≤ k := fun k => by
  unfold sgN
  rw [List.length_map]
  exact Nat.le_trans (List.length_filter_le _ _) (by simp)
noncomputable def SgP (P : Params) (L tc C it acc : Addr) (t : Int) (tt : Tok) (r : Result) (D : Dyn) : Prop :=
  ∃ (zs : Sts) (m : Nat) (k' t' : Tok), zs.map (·.1) = ((sgN t 7).map fun c => [c]) ∧ r = .ok .next ∧ D = [(acc, listN (vsO zs) m), (C, dictN (kkE P k' (.int 6 t')) 1), (tc, cellO (some (.int t tt)))]
theorem sg_7 {ys : Sts} {m : Nat} {k' t' : Tok} (hy : ys.map (·.1) = (sgN t 7).map fun c => [c]) : Spec (VW (wF w b c)) none 11 (sgC (PW w b c) L tc C it acc) (sgD tc C it acc t tt (dictN (kkE (PW w b c) k' (.int (.ofNat 6) t')) 1) (vsO ys) m 7 0) (SgP (PW w b c) L tc C it acc t tt) :=
  spec_run (fun ρ τ => sge_run w b c ρ τ L tc C it acc t tt (vsO ys) m _) Oks.nil fun ρ τ => ⟨ys, m, k', t', hy, rfl, rfl⟩
theorem sg_len {ys : Sts} {k : Nat} (hk : k ≤ 7) (hy : ys.map (·.1) = (sgN t k).map fun c => [c]) : ys.length ≤ 7 := by
  have := congrArg List.length hy
  rw [List.length_map, List.length_map] at this
  have := sgN_len t k
  omega
theorem sg_6 {ys : Sts} {m : Nat} {k' t' : Tok} (hy : ys.map (·.1) = (sgN t 6).map fun c => [c]) : Spec (VW (wF w b c)) none 11 (sgC (PW w b c) L tc C it acc) (sgD tc C it acc t tt (dictN (kkE (PW w b c) k' (.int (.ofNat 5) t')) 1) (vsO ys) m 6 1) (SgP (PW w b c) L tc C it acc t tt) :=
  sg_step (e := 64) (by decide) (by decide) hy (sg_len (by decide) hy) (fun ρ τ => sg1_6_run w b c ρ τ L tc C it acc t tt (vsO ys) m _ _) (fun ρ τ => sg0_6_run w b c ρ τ L tc C it acc t tt (vsO ys) m _ _) fun _ _ _ _ h => sg_7 h
theorem sg_5 {ys : Sts} {m : Nat} {k' t' : Tok} (hy : ys.map (·.1) = (sgN t 5).map fun c => [c]) : Spec (VW (wF w b c)) none 11 (sgC (PW w b c) L tc C it acc) (sgD tc C it acc t tt (dictN (kkE (PW w b c) k' (.int (.ofNat 4) t')) 1) (vsO ys) m 5 2) (SgP (PW w b c) L tc C it acc t tt) :=
  sg_step (e := 32) (by decide) (by decide) hy (sg_len (by decide) hy) (fun ρ τ => sg1_5_run w b c ρ τ L tc C it acc t tt (vsO ys) m _ _) (fun ρ τ => sg0_5_run w b c ρ τ L tc C it acc t tt (vsO ys) m _ _) fun _ _ _ _ h => sg_6 h
theorem sg_4 {ys : Sts} {m : Nat} {k' t' : Tok} (hy : ys.map (·.1) = (sgN t 4).map fun c => [c]) : Spec (VW (wF w b c)) none 11 (sgC (PW w b c) L tc C it acc) (sgD tc C it acc t tt (dictN (kkE (PW w b c) k' (.int (.ofNat 3) t')) 1) (vsO ys) m 4 3) (SgP (PW w b c) L tc C it acc t tt) :=
  sg_step (e := 16) (by decide) (by decide) hy (sg_len (by decide) hy) (fun ρ τ => sg1_4_run w b c ρ τ L tc C it acc t tt (vsO ys) m _ _) (fun ρ τ => sg0_4_run w b c ρ τ L tc C it acc t tt (vsO ys) m _ _) fun _ _ _ _ h => sg_5 h
theorem sg_3 {ys : Sts} {m : Nat} {k' t' : Tok} (hy : ys.map (·.1) = (sgN t 3).map fun c => [c]) : Spec (VW (wF w b c)) none 11 (sgC (PW w b c) L tc C it acc) (sgD tc C it acc t tt (dictN (kkE (PW w b c) k' (.int (.ofNat 2) t')) 1) (vsO ys) m 3 4) (SgP (PW w b c) L tc C it acc t tt) :=
  sg_step (e := 8) (by decide) (by decide) hy (sg_len (by decide) hy) (fun ρ τ => sg1_3_run w b c ρ τ L tc C it acc t tt (vsO ys) m _ _) (fun ρ τ => sg0_3_run w b c ρ τ L tc C it acc t tt (vsO ys) m _ _) fun _ _ _ _ h => sg_4 h
theorem sg_2 {ys : Sts} {m : Nat} {k' t' : Tok} (hy : ys.map (·.1) = (sgN t 2).map fun c => [c]) : Spec (VW (wF w b c)) none 11 (sgC (PW w b c) L tc C it acc) (sgD tc C it acc t tt (dictN (kkE (PW w b c) k' (.int (.ofNat 1) t')) 1) (vsO ys) m 2 5) (SgP (PW w b c) L tc C it acc t tt) :=
  sg_step (e := 4) (by decide) (by decide) hy (sg_len (by decide) hy) (fun ρ τ => sg1_2_run w b c ρ τ L tc C it acc t tt (vsO ys) m _ _) (fun ρ τ => sg0_2_run w b c ρ τ L tc C it acc t tt (vsO ys) m _ _) fun _ _ _ _ h => sg_3 h
theorem sg_1 {ys : Sts} {m : Nat} {k' t' : Tok} (hy : ys.map (·.1) = (sgN t 1).map fun c => [c]) : Spec (VW (wF w b c)) none 11 (sgC (PW w b c) L tc C it acc) (sgD tc C it acc t tt (dictN (kkE (PW w b c) k' (.int (.ofNat 0) t')) 1) (vsO ys) m 1 6) (SgP (PW w b c) L tc C it acc t tt) :=
  sg_step (e := 2) (by decide) (by decide) hy (sg_len (by decide) hy) (fun ρ τ => sg1_1_run w b c ρ τ L tc C it acc t tt (vsO ys) m _ _) (fun ρ τ => sg0_1_run w b c ρ τ L tc C it acc t tt (vsO ys) m _ _) fun _ _ _ _ h => sg_2 h
theorem sg_0 : Spec (VW (wF w b c)) none 11 (sgC (PW w b c) L tc C it acc) (sgD tc C it acc t tt (dictN [] 0) [] 0 0 7) (SgP (PW w b c) L tc C it acc t tt) :=
  sg_step (ys := []) (e := 1) (by decide) (by decide) rfl (by decide) (fun ρ τ => sg1_0_run w b c ρ τ L tc C it acc t tt [] 0) (fun ρ τ => sg0_0_run w b c ρ τ L tc C it acc t tt [] 0) fun _ _ _ _ h => sg_1 h
end
noncomputable def kSG (P : Params) (L tc C it acc : Addr) (t : Int) (tt : Tok) : Cut := ⟨none, sgS P L tc C it acc, sgD tc C it acc t tt (dictN [] 0) [] 0 0 7, 11, 0, 4, fun _ _ => .ok .next,
  fun _ ts => [listN (vsO (zipT ((sgN t 7).map fun c => [c]) (unl (hd0 ts)))) (hd1 ts), dictN (kkE P (hd2 ts) (.int 6 (hd3 ts))) 1, cellO (some (.int t tt))], fun _ _ => [], none⟩
theorem kSG_ok {w : World} {b c : Bool} {L tc C it acc : Addr} {t : Int} {tt : Tok} : Cut.Ok (VW (wF w b c)) (kSG (PW w b c) L tc C it acc t tt) := by
  have cs := comp_start (w := w) (b := b) (c := c) (fr := none) (acc := .ref acc) (env := sgEnv (PW w b c) L tc C) (T := "range_iterator") (it := it) (fs := [.int (.ofNat 0) 0, .int (.ofNat 7) 0, .int 1 0]) (k := 10) (R := [(acc, listN [] 0), (C, dictN [] 0), (tc, cellO (some (.int t tt)))]) (.inr (.inr rfl))
    ((sg_0 (w := w) (b := b) (c := c) (L := L) (tc := tc) (C := C) (it := it) (acc := acc) (t := t) (tt := tt)).ord (List.perm_append_comm (l₁ := [_]) (l₂ := [_, _, _])))
  refine (cs.ord (List.perm_append_comm (l₁ := [_, _, _]) (l₂ := [_]))).mono (Nat.le_refl _) fun r D h => ?_
  obtain ⟨zs, m, k', t', hz, rfl, rfl⟩ := h
  obtain ⟨u, hu⟩ := zipT_any hz
  refine ⟨[], [u, m, k', t'], rfl, rfl, rfl, ?_⟩
  show _ = [(acc, listN (vsO (zipT ((sgN t 7).map fun c => [c]) (unl u))) m), _, _]
  rw [hu]
  rfl
end Mine
end
section
open PySem PySem.W PySem.W.X PyProof.Rows
set_option Elab.async false
set_option maxRecDepth 100000
set_option linter.unusedVariables false
namespace Mine
noncomputable def wid (s : List Nat) : List (List Nat) → List (List Nat)
  | [] => [[], [], []]
  | a :: r => [] :: a :: (r.flatMap fun g => [s, s, g]) ++ [[]]
noncomputable def bld : List (List Nat) → List (List Nat) → List (List Nat)
  | [], ps => ps
  | s :: Q, ps => bld Q (wid s ps)
noncomputable def fin1 (row : List Nat) (l : List (List Nat)) : List Nat := flat (l.map (shN row))
theorem flatMap_fin (row : List Nat) (s : List Nat) (hs : fin1 row [[34]] = s) : ∀ r : List (List (List Nat)), (r.flatMap fun g => [[[34]], [[34]], g]).map (fin1 row) = (r.map (fin1 row)).flatMap fun g => [s, s, g]
  | [] => rfl
  | g :: r => by
    show ([[[34]], [[34]], g] ++ r.flatMap fun g => [[[34]], [[34]], g]).map (fin1 row) = [s, s, fin1 row g] ++ (r.map (fin1 row)).flatMap fun g => [s, s, g]
    rw [List.map_append, flatMap_fin row s hs r, ← hs]
    rfl
theorem tell_bld : ∀ (row : List Nat) {c : List (List (List Nat))}, c ≠ [] → (tellN row c).map flat = bld (mkQ row) (c.map (fin1 row))
  | [], c, _ => by
    show c.map flat = c.map (fin1 [])
    refine List.map_congr_left fun l _ => ?_
    show flat l = flat (l.map (shN []))
    have : l.map (shN []) = l := List.map_id l
    rw [this]
  | d :: row, c, h => by
    show (tellN row (tell1 d c)).map flat = _
    unfold tell1
    by_cases e : d = 113
    · subst e
      rw [if_pos rfl, tell_bld row (by simp [tellq])]
      show _ = bld (if 113 = 113 then shN row [34] :: mkQ row else mkQ row) _
      rw [if_pos rfl]
      show _ = bld (mkQ row) (wid (shN row [34]) (c.map (fin1 (113 :: row))))
      congr 1
      have same : fin1 (113 :: row) = fin1 row := by
        funext l
        show flat (l.map fun y => shN row (sh1 113 y)) = flat (l.map (shN row))
        congr 1
      rw [same]
      match c, h with
      | a :: r, _ =>
        show fin1 row [] :: fin1 row a :: ((r.flatMap fun g => [[[34]], [[34]], g]) ++ [[]]).map (fin1 row) = [] :: fin1 row a :: ((r.map (fin1 row)).flatMap fun g => [shN row [34], shN row [34], g]) ++ [[]]
        rw [List.map_append, flatMap_fin row (shN row [34]) (by show shN row [34] ++ [] = _; rw [List.append_nil])]
        rfl
    · rw [if_neg e, tell_bld row (c := cmap d c) (fun q => h (List.map_eq_nil_iff.mp q))]
      show bld (mkQ row) ((c.map fun l => l.map (sh1 d)).map (fin1 row)) = bld (if d = 113 then shN row [34] :: mkQ row else mkQ row) _
      rw [if_neg e, List.map_map]
      congr 1
      refine List.map_congr_left fun l _ => ?_
      show flat ((l.map (sh1 d)).map (shN row)) = flat (l.map fun y => shN row (sh1 d y))
      rw [List.map_map]
      rfl
theorem wid_len (s : List Nat) : ∀ ps : List (List Nat), ps ≠ [] → (wid s ps).length = 3 * ps.length
  | [], h => absurd rfl h
  | a :: r, _ => by
    have : ∀ r : List (List Nat), (r.flatMap fun g => [s, s, g]).length = 3 * r.length := fun r => by
      induction r with
      | nil => rfl
      | cons g r ih => rw [List.flatMap_cons, List.length_append, ih]; simp; omega
    show ([] :: a :: (r.flatMap fun g => [s, s, g]) ++ [[]]).length = _
    simp only [List.length_append, List.length_cons, List.length_nil, this]
    omega
theorem bld_len : ∀ (Q ps : List (List Nat)), ps ≠ [] → (bld Q ps).length = 3 ^ Q.length * ps.length
  | [], ps, _ => by simp [bld]
  | s :: Q, ps, h => by
    have w := wid_len s ps h
    have ne : wid s ps ≠ [] := fun e => by
      rw [e] at w
      have : 0 < ps.length := List.length_pos_iff.mpr h
      simp at w
      omega
    show (bld Q (wid s ps)).length = _
    rw [bld_len Q _ ne, w, List.length_cons, Nat.pow_succ, Nat.mul_assoc]
theorem flat_inj {s t : List Nat} : ∀ {r q : List (List Nat)}, r.length = q.length → (r.flatMap fun g => [s, s, g]) = (q.flatMap fun g => [t, t, g]) → r = q ∧ (r ≠ [] → s = t)
  | [], [], _, _ => ⟨rfl, fun h => absurd rfl h⟩
  | [], _ :: _, h, _ => by simp at h
  | _ :: _, [], h, _ => by simp at h
  | g :: r, k :: q, hl, h => by
    have h : s :: s :: g :: (r.flatMap fun g => [s, s, g]) = t :: t :: k :: (q.flatMap fun g => [t, t, g]) := h
    simp only [List.cons.injEq] at h
    obtain ⟨e1, _, e2, e3⟩ := h
    obtain ⟨e4, _⟩ := flat_inj (by simpa using hl) e3
    exact ⟨by rw [e2, e4], fun _ => e1⟩
theorem wid_inj {s t : List Nat} : ∀ {ps qs : List (List Nat)}, ps.length = qs.length → 2 ≤ ps.length → wid s ps = wid t qs → ps = qs ∧ s = t
  | a :: r, b :: q, hl, h2, h => by
    have h : [] :: a :: ((r.flatMap fun g => [s, s, g]) ++ [[]]) = [] :: b :: ((q.flatMap fun g => [t, t, g]) ++ [[]]) := h
    simp only [List.cons.injEq, true_and] at h
    obtain ⟨e1, e2⟩ := h
    have hl : r.length = q.length := by simpa using hl
    obtain ⟨e3, e4⟩ := flat_inj hl (List.append_cancel_right e2)
    refine ⟨by rw [e1, e3], e4 fun e => ?_⟩
    rw [e] at h2
    simp at h2
  | [], _, _, h2, _ => by simp at h2
  | _ :: _, [], hl, _, _ => by simp at hl
theorem bld_inj : ∀ {Q R ps qs : List (List Nat)}, Q.length = R.length → ps.length = qs.length → 2 ≤ ps.length → bld Q ps = bld R qs → Q = R ∧ ps = qs
  | [], [], _, _, _, _, _, h => ⟨rfl, h⟩
  | [], _ :: _, _, _, h, _, _, _ => by simp at h
  | _ :: _, [], _, _, h, _, _, _ => by simp at h
  | s :: Q, t :: R, ps, qs, hQ, hl, h2, h => by
    have n1 : ps ≠ [] := fun e => by rw [e] at h2; simp at h2
    have n2 : qs ≠ [] := fun e => by rw [e] at hl; rw [hl] at h2; simp at h2
    have w1 := wid_len s ps n1
    have w2 := wid_len t qs n2
    obtain ⟨e1, e2⟩ := bld_inj (Q := Q) (R := R) (ps := wid s ps) (qs := wid t qs) (by simpa using hQ) (by rw [w1, w2, hl]) (by rw [w1]; omega) h
    obtain ⟨e3, e4⟩ := wid_inj hl h2 e2
    exact ⟨by rw [e1, e4], e3⟩
noncomputable def amp4 : List Nat := [97, 109, 112, 59]
noncomputable def rep4 : Nat → List Nat
  | 0 => []
  | k + 1 => amp4 ++ rep4 k
noncomputable def valsOf : Nat → List (List Nat)
  | 60 => [[108, 116, 59]]
  | 62 => [[103, 116, 59]]
  | 34 => [[113, 117, 111, 116, 59]]
  | 13 => [[35, 49, 51, 59], [35, 120, 68, 59]]
  | 10 => [[35, 49, 48, 59], [35, 120, 65, 59]]
  | 9 => [[35, 48, 57, 59], [35, 120, 57, 59]]
  | _ => []
noncomputable def ShC (c : Nat) (y : List Nat) : Prop := y = [c] ∨ ∃ k v, v ∈ valsOf c ∧ y = 38 :: (rep4 k ++ v)
theorem tab_vals (d : Nat) : ∀ p ∈ tabOf d, p.2 ∈ valsOf p.1 := by
  unfold tabOf
  split <;> decide
theorem sh1_shape {c d : Nat} (hc : c ≠ 38) {y : List Nat} (h : ShC c y) : ShC c (sh1 d y) := by
  unfold sh1
  split
  · exact h
  · rcases h with rfl | ⟨k, v, hv, rfl⟩
    · show ShC c (if c = 38 then _ else match lk (tabOf d) c with | some v => 38 :: v | none => [c])
      rw [if_neg hc]
      cases e : lk (tabOf d) c with
      | none => exact .inl rfl
      | some v => exact .inr ⟨0, v, tab_vals d _ (lk_mem e), rfl⟩
    · exact .inr ⟨k + 1, v, hv, rfl⟩
theorem shN_shape {c : Nat} (hc : c ≠ 38) : ∀ (row : List Nat) {y : List Nat}, ShC c y → ShC c (shN row y)
  | [], _, h => h
  | d :: row, _, h => shN_shape hc row (sh1_shape hc h)
theorem vals_len (c : Nat) : ∀ v ∈ valsOf c, ∀ u ∈ valsOf c, v.length = u.length := by
  unfold valsOf
  split <;> decide
theorem vals_head (c : Nat) : ∀ v ∈ valsOf c, v.head? ≠ some 97 ∧ v ≠ [] := by
  unfold valsOf
  split <;> decide
theorem rep_inj {c : Nat} {v u : List Nat} (hv : v ∈ valsOf c) (hu : u ∈ valsOf c) : ∀ {k j : Nat} {R S : List Nat}, rep4 k ++ v ++ R = rep4 j ++ u ++ S → k = j ∧ v = u ∧ R = S
  | 0, 0, R, S, h => by
    have h : v ++ R = u ++ S := h
    obtain ⟨e1, e2⟩ := List.append_inj h (vals_len c v hv u hu)
    exact ⟨rfl, e1, e2⟩
  | 0, j + 1, R, S, h => by
    have h : v ++ R = 97 :: ([109, 112, 59] ++ rep4 j ++ u ++ S) := h
    obtain ⟨h1, h2⟩ := vals_head c v hv
    match v, h1, h2, h with
    | a :: v, h1, _, h =>
      have : a = 97 := (List.cons.inj h).1
      exact absurd (by rw [this]; rfl) h1
  | k + 1, 0, R, S, h => by
    have h : 97 :: ([109, 112, 59] ++ rep4 k ++ v ++ R) = u ++ S := h
    obtain ⟨h1, h2⟩ := vals_head c u hu
    match u, h1, h2, h with
    | a :: u, h1, _, h =>
      have : 97 = a := (List.cons.inj h).1
      exact absurd (by rw [← this]; rfl) h1
  | k + 1, j + 1, R, S, h => by
    have h : amp4 ++ rep4 k ++ v ++ R = amp4 ++ rep4 j ++ u ++ S := h
    rw [List.append_assoc amp4, List.append_assoc amp4, List.append_assoc amp4, List.append_assoc amp4] at h
    obtain ⟨e1, e2, e3⟩ := rep_inj hv hu (List.append_cancel_left h)
    exact ⟨by rw [e1], e2, e3⟩
theorem shape_inj {c : Nat} (hc : c ≠ 38) {y z R S : List Nat} (hy : ShC c y) (hz : ShC c z) (h : y ++ R = z ++ S) : y = z ∧ R = S := by
  rcases hy with rfl | ⟨k, v, hv, rfl⟩
  · rcases hz with rfl | ⟨j, u, hu, rfl⟩
    · exact ⟨rfl, (List.cons.inj h).2⟩
    · exact absurd (List.cons.inj h).1 hc
  · rcases hz with rfl | ⟨j, u, hu, rfl⟩
    · exact absurd (List.cons.inj h).1.symm hc
    · have h : 38 :: (rep4 k ++ v ++ R) = 38 :: (rep4 j ++ u ++ S) := h
      obtain ⟨rfl, rfl, rfl⟩ := rep_inj hv hu (List.cons.inj h).2
      exact ⟨rfl, rfl⟩
noncomputable def L38 : List Nat → Prop
  | [] => True
  | c :: r => (c = 38 → r = []) ∧ L38 r
theorem signs_inj {r0 r1 : List Nat} : ∀ {x : List Nat}, L38 x → flat (x.map fun c => shN r0 [c]) = flat (x.map fun c => shN r1 [c]) → (x.map fun c => shN r0 [c]) = x.map fun c => shN r1 [c]
  | [], _, _ => rfl
  | c :: x, h, e => by
    have e : shN r0 [c] ++ flat (x.map fun c => shN r0 [c]) = shN r1 [c] ++ flat (x.map fun c => shN r1 [c]) := e
    show shN r0 [c] :: _ = shN r1 [c] :: _
    by_cases hc : c = 38
    · have := h.1 hc
      subst this
      have e : shN r0 [c] ++ [] = shN r1 [c] ++ [] := e
      rw [List.append_nil, List.append_nil] at e
      rw [e]
      rfl
    · obtain ⟨e1, e2⟩ := shape_inj hc (shN_shape hc r0 (.inl rfl)) (shN_shape hc r1 (.inl rfl)) e
      rw [e1, signs_inj h.2 e2]
theorem tellN_ok : ∀ (row : List Nat) {c : List (List (List Nat))}, OkC c → OkC (tellN row c)
  | [], _, h => h
  | d :: row, _, h => tellN_ok row h.step
theorem alike_law {r0 r1 x : List Nat} (hx : OkX x) (h38 : L38 x) : (tdText r0 x == tdText r1 x) = (mkN r0 x == mkN r1 x) := by
  have k0 := tellN_ok r0 (okC0 hx)
  have k1 := tellN_ok r1 (okC0 hx)
  have b0 := tell_bld r0 (okC0 hx).1
  have b1 := tell_bld r1 (okC0 hx).1
  have t : ∀ row, ([[], x.map fun c => [c]] : List (List (List Nat))).map (fin1 row) = [[], flat (x.map fun c => shN row [c])] := fun row => by
    show [fin1 row [], fin1 row (x.map fun c => [c])] = _
    show [[], flat ((x.map fun c => [c]).map (shN row))] = _
    rw [List.map_map]
    rfl
  rw [t] at b0 b1
  rw [Bool.eq_iff_iff, beq_iff_eq, beq_iff_eq]
  constructor
  · intro h
    have h := join_inj (fun e => k0.1 (List.map_eq_nil_iff.mp e)) (fun e => k1.1 (List.map_eq_nil_iff.mp e)) k0.no39 k1.no39 h
    rw [b0, b1] at h
    have hl := congrArg List.length h
    rw [bld_len _ _ (by simp), bld_len _ _ (by simp)] at hl
    have hp : 3 ^ (mkQ r0).length = 3 ^ (mkQ r1).length := by
      simp only [List.length_cons, List.length_nil] at hl
      omega
    have hq : (mkQ r0).length = (mkQ r1).length := by
      rcases Nat.lt_trichotomy (mkQ r0).length (mkQ r1).length with q | q | q
      · exact absurd hp (Nat.ne_of_lt (Nat.pow_lt_pow_right (by decide) q))
      · exact q
      · exact absurd hp.symm (Nat.ne_of_lt (Nat.pow_lt_pow_right (by decide) q))
    obtain ⟨e1, e2⟩ := bld_inj (ps := [[], flat (x.map fun c => shN r0 [c])]) (qs := [[], flat (x.map fun c => shN r1 [c])]) hq rfl (Nat.le_refl 2) h
    have e3 : flat (x.map fun c => shN r0 [c]) = flat (x.map fun c => shN r1 [c]) := by simpa using e2
    unfold mkN
    rw [signs_inj h38 e3, e1]
  · intro h
    have h : (x.map fun c => shN r0 [c]) ++ mkQ r0 = (x.map fun c => shN r1 [c]) ++ mkQ r1 := h
    obtain ⟨e1, e2⟩ := List.append_inj h (by rw [List.length_map, List.length_map])
    show joinN 39 _ = joinN 39 _
    rw [b0, b1, e1, e2]
theorem l38_filter (p : Nat → Bool) (f : Nat → Nat) : ∀ l : List Nat, L38 (l.map f) → L38 ((l.filter p).map f)
  | [], _ => trivial
  | a :: l, h => by
    have ih := l38_filter p f l h.2
    rw [List.filter_cons]
    split
    · refine ⟨fun e => ?_, ih⟩
      have := h.1 e
      rw [List.map_eq_nil_iff.mp this]
      rfl
    · exact ih
theorem sgN_38 (t : Int) : L38 (sgN t 7) := l38_filter (bitOf t) _ _ (by
  show L38 [34, 60, 62, 13, 10, 9, 38]
  simp [L38])
theorem sgN_ok (t : Int) : OkX (sgN t 7) := by
  refine ⟨sgN_len t 7, fun c hc => ?_⟩
  obtain ⟨k, hk, rfl⟩ := List.mem_map.mp hc
  have hk := List.mem_range.mp (List.mem_filter.mp hk).1
  have : k = 0 ∨ k = 1 ∨ k = 2 ∨ k = 3 ∨ k = 4 ∨ k = 5 ∨ k = 6 := by omega
  rcases this with rfl | rfl | rfl | rfl | rfl | rfl | rfl <;> decide
end Mine
end
section
open PySem PySem.W PySem.W.X PyProof.Rows
set_option Elab.async false
set_option maxRecDepth 100000
namespace Mine
noncomputable def esC_h : List Nat := [0, 0, 1, 0, 1, 0]
noncomputable def esC_e (w : World) : List (Of Ent) := [fun ρ _ => entOf (o874 w.params) 874 (ρ 0) true]
noncomputable def esC0t_h : List Nat := [1, 0, 1, 0, 1, 1000, 0, 1, 0, 1, 0, 1, 0]
noncomputable def esC0t_e (w : World) : List (Of Ent) := []
noncomputable def esC0f_h : List Nat := [1, 0, 1, 0, 1, 0]
noncomputable def esC0f_e (w : World) : List (Of Ent) := []
noncomputable def esC1t_h : List Nat := [1, 0, 1, 0, 1, 1000, 0, 1, 0, 1, 0, 1, 0]
noncomputable def esC1t_e (w : World) : List (Of Ent) := []
noncomputable def esC1f_h : List Nat := [1, 0, 1, 0, 1, 0]
noncomputable def esC1f_e (w : World) : List (Of Ent) := []
noncomputable def esC2t_h : List Nat := [1, 0, 1, 0, 1, 1000, 0, 1, 0, 1, 0, 1, 0]
noncomputable def esC2t_e (w : World) : List (Of Ent) := []
noncomputable def esC2f_h : List Nat := [1, 0, 1, 0, 1, 0]
noncomputable def esC2f_e (w : World) : List (Of Ent) := []
noncomputable def esCr_h : List Nat := [1, 1, 0]
noncomputable def esCr_e (w : World) : List (Of Ent) := []
noncomputable def esA_h : List Nat := [0, 0, 1, 0, 1, 0]
noncomputable def esA_e (w : World) : List (Of Ent) := [fun ρ _ => entOf (o881 w.params) 881 (ρ 0) true]
noncomputable def esA0t_h : List Nat := [1, 0, 1, 0, 1, 1000, 0, 1, 0, 1, 0, 1, 0]
noncomputable def esA0t_e (w : World) : List (Of Ent) := []
noncomputable def esA0f_h : List Nat := [1, 0, 1, 0, 1, 0]
noncomputable def esA0f_e (w : World) : List (Of Ent) := []
noncomputable def esA1t_h : List Nat := [1, 0, 1, 0, 1, 1000, 0, 1, 0, 1, 0, 1, 0]
noncomputable def esA1t_e (w : World) : List (Of Ent) := []
noncomputable def esA1f_h : List Nat := [1, 0, 1, 0, 1, 0]
noncomputable def esA1f_e (w : World) : List (Of Ent) := []
noncomputable def esA2t_h : List Nat := [1, 0, 1, 0, 1, 1000, 0, 1, 0, 1, 0, 1, 0]
noncomputable def esA2t_e (w : World) : List (Of Ent) := []
noncomputable def esA2f_h : List Nat := [1, 0, 1, 0, 1, 0]
noncomputable def esA2f_e (w : World) : List (Of Ent) := []
noncomputable def esA3t_h : List Nat := [1, 0, 1, 0, 1, 1000, 0, 1, 0, 1, 0, 1, 0]
noncomputable def esA3t_e (w : World) : List (Of Ent) := []
noncomputable def esA3f_h : List Nat := [1, 0, 1, 0, 1, 0]
noncomputable def esA3f_e (w : World) : List (Of Ent) := []
noncomputable def esA4t_h : List Nat := [1, 0, 1, 0, 1, 1000, 0, 1, 0, 1, 0, 1, 0]
noncomputable def esA4t_e (w : World) : List (Of Ent) := []
noncomputable def esA4f_h : List Nat := [1, 0, 1, 0, 1, 0]
noncomputable def esA4f_e (w : World) : List (Of Ent) := []
noncomputable def esA5t_h : List Nat := [1, 0, 1, 0, 1, 1000, 0, 1, 0, 1, 0, 1, 0]
noncomputable def esA5t_e (w : World) : List (Of Ent) := []
noncomputable def esA5f_h : List Nat := [1, 0, 1, 0, 1, 0]
noncomputable def esA5f_e (w : World) : List (Of Ent) := []
noncomputable def esA6t_h : List Nat := [1, 0, 1, 0, 1, 1000, 0, 1, 0, 1, 0, 1, 0]
noncomputable def esA6t_e (w : World) : List (Of Ent) := []
noncomputable def esA6f_h : List Nat := [1, 0, 1, 0, 1, 0]
noncomputable def esA6f_e (w : World) : List (Of Ent) := []
noncomputable def esAr_h : List Nat := [1, 1, 0]
noncomputable def esAr_e (w : World) : List (Of Ent) := []
noncomputable def esH_h : List Nat := [0, 0, 1, 0, 1, 0]
noncomputable def esH_e (w : World) : List (Of Ent) := [fun ρ _ => entOf (o888 w.params) 888 (ρ 0) true]
noncomputable def esH0t_h : List Nat := [1, 0, 1, 0, 1, 1000, 0, 1, 0, 1, 0, 1, 0]
noncomputable def esH0t_e (w : World) : List (Of Ent) := []
noncomputable def esH0f_h : List Nat := [1, 0, 1, 0, 1, 0]
noncomputable def esH0f_e (w : World) : List (Of Ent) := []
noncomputable def esH1t_h : List Nat := [1, 0, 1, 0, 1, 1000, 0, 1, 0, 1, 0, 1, 0]
noncomputable def esH1t_e (w : World) : List (Of Ent) := []
noncomputable def esH1f_h : List Nat := [1, 0, 1, 0, 1, 0]
noncomputable def esH1f_e (w : World) : List (Of Ent) := []
noncomputable def esH2t_h : List Nat := [1, 0, 1, 0, 1, 1000, 0, 1, 0, 1, 0, 1, 0]
noncomputable def esH2t_e (w : World) : List (Of Ent) := []
noncomputable def esH2f_h : List Nat := [1, 0, 1, 0, 1, 0]
noncomputable def esH2f_e (w : World) : List (Of Ent) := []
noncomputable def esHr_h : List Nat := [1, 1, 0]
noncomputable def esHr_e (w : World) : List (Of Ent) := []
noncomputable def esE_h : List Nat := [0, 0, 1, 0, 1, 0]
noncomputable def esE_e (w : World) : List (Of Ent) := [fun ρ _ => entOf (o895 w.params) 895 (ρ 0) true]
noncomputable def esE0t_h : List Nat := [1, 0, 1, 0, 1, 1000, 0, 1, 0, 1, 0, 1, 0]
noncomputable def esE0t_e (w : World) : List (Of Ent) := []
noncomputable def esE0f_h : List Nat := [1, 0, 1, 0, 1, 0]
noncomputable def esE0f_e (w : World) : List (Of Ent) := []
noncomputable def esE1t_h : List Nat := [1, 0, 1, 0, 1, 1000, 0, 1, 0, 1, 0, 1, 0]
noncomputable def esE1t_e (w : World) : List (Of Ent) := []
noncomputable def esE1f_h : List Nat := [1, 0, 1, 0, 1, 0]
noncomputable def esE1f_e (w : World) : List (Of Ent) := []
noncomputable def esE2t_h : List Nat := [1, 0, 1, 0, 1, 1000, 0, 1, 0, 1, 0, 1, 0]
noncomputable def esE2t_e (w : World) : List (Of Ent) := []
noncomputable def esE2f_h : List Nat := [1, 0, 1, 0, 1, 0]
noncomputable def esE2f_e (w : World) : List (Of Ent) := []
noncomputable def esE3t_h : List Nat := [1, 0, 1, 0, 1, 1000, 0, 1, 0, 1, 0, 1, 0]
noncomputable def esE3t_e (w : World) : List (Of Ent) := []
noncomputable def esE3f_h : List Nat := [1, 0, 1, 0, 1, 0]
noncomputable def esE3f_e (w : World) : List (Of Ent) := []
noncomputable def esEr_h : List Nat := [1, 1, 0]
noncomputable def esEr_e (w : World) : List (Of Ent) := []
noncomputable def esD_h : List Nat := [0, 0, 1, 0, 1, 0]
noncomputable def esD_e (w : World) : List (Of Ent) := [fun ρ _ => entOf (o902 w.params) 902 (ρ 0) true]
noncomputable def esD0t_h : List Nat := [1, 0, 1, 0, 1, 1000, 0, 1, 0, 1, 0, 1, 0]
noncomputable def esD0t_e (w : World) : List (Of Ent) := []
noncomputable def esD0f_h : List Nat := [1, 0, 1, 0, 1, 0]
noncomputable def esD0f_e (w : World) : List (Of Ent) := []
noncomputable def esD1t_h : List Nat := [1, 0, 1, 0, 1, 1000, 0, 1, 0, 1, 0, 1, 0]
noncomputable def esD1t_e (w : World) : List (Of Ent) := []
noncomputable def esD1f_h : List Nat := [1, 0, 1, 0, 1, 0]
noncomputable def esD1f_e (w : World) : List (Of Ent) := []
noncomputable def esD2t_h : List Nat := [1, 0, 1, 0, 1, 1000, 0, 1, 0, 1, 0, 1, 0]
noncomputable def esD2t_e (w : World) : List (Of Ent) := []
noncomputable def esD2f_h : List Nat := [1, 0, 1, 0, 1, 0]
noncomputable def esD2f_e (w : World) : List (Of Ent) := []
noncomputable def esD3t_h : List Nat := [1, 0, 1, 0, 1, 1000, 0, 1, 0, 1, 0, 1, 0]
noncomputable def esD3t_e (w : World) : List (Of Ent) := []
noncomputable def esD3f_h : List Nat := [1, 0, 1, 0, 1, 0]
noncomputable def esD3f_e (w : World) : List (Of Ent) := []
noncomputable def esD4t_h : List Nat := [1, 0, 1, 0, 1, 1000, 0, 1, 0, 1, 0, 1, 0]
noncomputable def esD4t_e (w : World) : List (Of Ent) := []
noncomputable def esD4f_h : List Nat := [1, 0, 1, 0, 1, 0]
noncomputable def esD4f_e (w : World) : List (Of Ent) := []
noncomputable def esD5t_h : List Nat := [1, 0, 1, 0, 1, 1000, 0, 1, 0, 1, 0, 1, 0]
noncomputable def esD5t_e (w : World) : List (Of Ent) := []
noncomputable def esD5f_h : List Nat := [1, 0, 1, 0, 1, 0]
noncomputable def esD5f_e (w : World) : List (Of Ent) := []
noncomputable def esDr_h : List Nat := [1, 1, 0]
noncomputable def esDr_e (w : World) : List (Of Ent) := []
end Mine
end
section
open PySem PySem.W PySem.W.X PyProof.Rows
set_option Elab.async false
set_option maxRecDepth 100000
namespace Mine
theorem csC_ok : ∀ p ∈ csC, p.2 ≠ [] ∧ p.2.length ≤ 7 := by decide
theorem csA_ok : ∀ p ∈ csA, p.2 ≠ [] ∧ p.2.length ≤ 7 := by decide
theorem csH_ok : ∀ p ∈ csH, p.2 ≠ [] ∧ p.2.length ≤ 7 := by decide
theorem csE_ok : ∀ p ∈ csE, p.2 ≠ [] ∧ p.2.length ≤ 7 := by decide
theorem csD_ok : ∀ p ∈ csD, p.2 ≠ [] ∧ p.2.length ≤ 7 := by decide
theorem repl_le {c : Nat} {e : List Nat} : ∀ x : List Nat, (repl c e x).length ≤ x.length + x.length * e.length
  | [] => by simp [repl]
  | d :: x => by
    have ih := repl_le (c := c) (e := e) x
    rw [List.length_cons, Nat.succ_mul]
    show (match Nat.beq d c with | true => e ++ repl c e x | false => d :: repl c e x).length ≤ _
    cases Nat.beq d c <;> simp <;> omega
theorem one_ok {w : World} {b c : Bool} {c₀ : Code} {s : Stmt} {env : Env} {L : Addr} {k : Tok} {p : Nat × List Nat} {h1 h2 : List Nat} (hp : p.2 ≠ [] ∧ p.2.length ≤ 7) (hne : [p.1] ≠ p.2)
    (T : ∀ x t ρ τ, Both (sim (VW (wF w b c)) none ρ τ (esZ1 (wF w b c).params L k x p) 300 h1 (esK1 x t p) [] 8 .base c₀ (finF (exF [s] env)) [(L, eF (wF w b c).params k x t)] 0 0 [] []))
    (F : ∀ x t ρ τ, Both (sim (VW (wF w b c)) none ρ τ (esZ2 (wF w b c).params L k x t) 300 h2 (esK2 x t p) [] 8 .base c₀ (finF (exF [s] env)) [(L, eF (wF w b c).params k x t)] 0 0 [] []))
    (x : List Nat) (t : Tok) (hx : x.length * 8 ≤ sizeLine) : SpecX (VW (wF w b c)) none 8 c₀ (execs [s] env) [(L, eF (wF w b c).params k x t)] fun r D => r = .ok .next ∧ ∃ t', D = [(L, eF (wF w b c).params k (repl p.1 p.2 x) t')] := by
  have m := Nat.mul_le_mul_left x.length hp.2
  have bd : x.length + x.length * p.2.length ≤ sizeLine := by omega
  by_cases q : p.1 ∈ x
  · exact run_ex (T x t) (Oks.cons (fun _ _ => has_is (by simpa using q)) (.cons (fun _ _ => rep_ok q hne bd (Nat.le_trans (repl_le x) bd)) .nil)) fun ρ τ => ⟨_, rfl, rfl, _, rfl⟩
  · refine run_ex (F x t) (Oks.cons (fun _ _ => has_is (by simpa using q)) .nil) fun ρ τ => ⟨_, rfl, rfl, t, ?_⟩
    rw [repl_free _ _ _ q]
    rfl
section
variable (w : World) (b c : Bool) (L : Addr) (k : Tok) (x : List Nat) (t : Tok) (ρ : Nat → Addr) (τ : Nat → Tok)
theorem esC_run : Both (runOf (wF w b c) ρ τ 100 (esZ0 (wF w b c).params x t (o874 (wF w b c).params) 874) esC_h [] (esC_e (wF w b c)) 8 (.call (.ref 874) ⟨[sv x t], []⟩) []) := both_of (by kernel_rfl)
theorem esC0t_run : Both (sim (VW (wF w b c)) none ρ τ (esZ1 (wF w b c).params L k x (csC.getD 0 (0, []))) 300 esC0t_h (esK1 x t (csC.getD 0 (0, []))) [] 8 .base (esC (o874 (wF w b c).params) 874 L) (finF (exF [stAt (esB (o874 (wF w b c).params)) 0] (entOf (o874 (wF w b c).params) 874 L).env)) [(L, eF (wF w b c).params k x t)] 0 0 [] []) := by cases b <;> exact both_of (by kernel_rfl)
theorem esC0f_run : Both (sim (VW (wF w b c)) none ρ τ (esZ2 (wF w b c).params L k x t) 300 esC0f_h (esK2 x t (csC.getD 0 (0, []))) [] 8 .base (esC (o874 (wF w b c).params) 874 L) (finF (exF [stAt (esB (o874 (wF w b c).params)) 0] (entOf (o874 (wF w b c).params) 874 L).env)) [(L, eF (wF w b c).params k x t)] 0 0 [] []) := by cases b <;> exact both_of (by kernel_rfl)
theorem esC1t_run : Both (sim (VW (wF w b c)) none ρ τ (esZ1 (wF w b c).params L k x (csC.getD 1 (0, []))) 300 esC1t_h (esK1 x t (csC.getD 1 (0, []))) [] 8 .base (esC (o874 (wF w b c).params) 874 L) (finF (exF [stAt (esB (o874 (wF w b c).params)) 1] (entOf (o874 (wF w b c).params) 874 L).env)) [(L, eF (wF w b c).params k x t)] 0 0 [] []) := by cases b <;> exact both_of (by kernel_rfl)
theorem esC1f_run : Both (sim (VW (wF w b c)) none ρ τ (esZ2 (wF w b c).params L k x t) 300 esC1f_h (esK2 x t (csC.getD 1 (0, []))) [] 8 .base (esC (o874 (wF w b c).params) 874 L) (finF (exF [stAt (esB (o874 (wF w b c).params)) 1] (entOf (o874 (wF w b c).params) 874 L).env)) [(L, eF (wF w b c).params k x t)] 0 0 [] []) := by cases b <;> exact both_of (by kernel_rfl)
theorem esC2t_run : Both (sim (VW (wF w b c)) none ρ τ (esZ1 (wF w b c).params L k x (csC.getD 2 (0, []))) 300 esC2t_h (esK1 x t (csC.getD 2 (0, []))) [] 8 .base (esC (o874 (wF w b c).params) 874 L) (finF (exF [stAt (esB (o874 (wF w b c).params)) 2] (entOf (o874 (wF w b c).params) 874 L).env)) [(L, eF (wF w b c).params k x t)] 0 0 [] []) := by cases b <;> exact both_of (by kernel_rfl)
theorem esC2f_run : Both (sim (VW (wF w b c)) none ρ τ (esZ2 (wF w b c).params L k x t) 300 esC2f_h (esK2 x t (csC.getD 2 (0, []))) [] 8 .base (esC (o874 (wF w b c).params) 874 L) (finF (exF [stAt (esB (o874 (wF w b c).params)) 2] (entOf (o874 (wF w b c).params) 874 L).env)) [(L, eF (wF w b c).params k x t)] 0 0 [] []) := by cases b <;> exact both_of (by kernel_rfl)
theorem esCr_run : Both (sim (VW (wF w b c)) none ρ τ (esZ3 (wF w b c).params L k x t) 300 esCr_h [] [] 8 .base (esC (o874 (wF w b c).params) 874 L) (finF (exF [stAt (esB (o874 (wF w b c).params)) 3] (entOf (o874 (wF w b c).params) 874 L).env)) [(L, eF (wF w b c).params k x t)] 0 0 [] []) := by cases b <;> exact both_of (by kernel_rfl)
theorem esA_run : Both (runOf (wF w b c) ρ τ 100 (esZ0 (wF w b c).params x t (o881 (wF w b c).params) 881) esA_h [] (esA_e (wF w b c)) 8 (.call (.ref 881) ⟨[sv x t], []⟩) []) := both_of (by kernel_rfl)
theorem esA0t_run : Both (sim (VW (wF w b c)) none ρ τ (esZ1 (wF w b c).params L k x (csA.getD 0 (0, []))) 300 esA0t_h (esK1 x t (csA.getD 0 (0, []))) [] 8 .base (esC (o881 (wF w b c).params) 881 L) (finF (exF [stAt (esB (o881 (wF w b c).params)) 0] (entOf (o881 (wF w b c).params) 881 L).env)) [(L, eF (wF w b c).params k x t)] 0 0 [] []) := by cases b <;> exact both_of (by kernel_rfl)
theorem esA0f_run : Both (sim (VW (wF w b c)) none ρ τ (esZ2 (wF w b c).params L k x t) 300 esA0f_h (esK2 x t (csA.getD 0 (0, []))) [] 8 .base (esC (o881 (wF w b c).params) 881 L) (finF (exF [stAt (esB (o881 (wF w b c).params)) 0] (entOf (o881 (wF w b c).params) 881 L).env)) [(L, eF (wF w b c).params k x t)] 0 0 [] []) := by cases b <;> exact both_of (by kernel_rfl)
theorem esA1t_run : Both (sim (VW (wF w b c)) none ρ τ (esZ1 (wF w b c).params L k x (csA.getD 1 (0, []))) 300 esA1t_h (esK1 x t (csA.getD 1 (0, []))) [] 8 .base (esC (o881 (wF w b c).params) 881 L) (finF (exF [stAt (esB (o881 (wF w b c).params)) 1] (entOf (o881 (wF w b c).params) 881 L).env)) [(L, eF (wF w b c).params k x t)] 0 0 [] []) := by cases b <;> exact both_of (by kernel_rfl)
theorem esA1f_run : Both (sim (VW (wF w b c)) none ρ τ (esZ2 (wF w b c).params L k x t) 300 esA1f_h (esK2 x t (csA.getD 1 (0, []))) [] 8 .base (esC (o881 (wF w b c).params) 881 L) (finF (exF [stAt (esB (o881 (wF w b c).params)) 1] (entOf (o881 (wF w b c).params) 881 L).env)) [(L, eF (wF w b c).params k x t)] 0 0 [] []) := by cases b <;> exact both_of (by kernel_rfl)
theorem esA2t_run : Both (sim (VW (wF w b c)) none ρ τ (esZ1 (wF w b c).params L k x (csA.getD 2 (0, []))) 300 esA2t_h (esK1 x t (csA.getD 2 (0, []))) [] 8 .base (esC (o881 (wF w b c).params) 881 L) (finF (exF [stAt (esB (o881 (wF w b c).params)) 2] (entOf (o881 (wF w b c).params) 881 L).env)) [(L, eF (wF w b c).params k x t)] 0 0 [] []) := by cases b <;> exact both_of (by kernel_rfl)
theorem esA2f_run : Both (sim (VW (wF w b c)) none ρ τ (esZ2 (wF w b c).params L k x t) 300 esA2f_h (esK2 x t (csA.getD 2 (0, []))) [] 8 .base (esC (o881 (wF w b c).params) 881 L) (finF (exF [stAt (esB (o881 (wF w b c).params)) 2] (entOf (o881 (wF w b c).params) 881 L).env)) [(L, eF (wF w b c).params k x t)] 0 0 [] []) := by cases b <;> exact both_of (by kernel_rfl)
theorem esA3t_run : Both (sim (VW (wF w b c)) none ρ τ (esZ1 (wF w b c).params L k x (csA.getD 3 (0, []))) 300 esA3t_h (esK1 x t (csA.getD 3 (0, []))) [] 8 .base (esC (o881 (wF w b c).params) 881 L) (finF (exF [stAt (esB (o881 (wF w b c).params)) 3] (entOf (o881 (wF w b c).params) 881 L).env)) [(L, eF (wF w b c).params k x t)] 0 0 [] []) := by cases b <;> exact both_of (by kernel_rfl)
theorem esA3f_run : Both (sim (VW (wF w b c)) none ρ τ (esZ2 (wF w b c).params L k x t) 300 esA3f_h (esK2 x t (csA.getD 3 (0, []))) [] 8 .base (esC (o881 (wF w b c).params) 881 L) (finF (exF [stAt (esB (o881 (wF w b c).params)) 3] (entOf (o881 (wF w b c).params) 881 L).env)) [(L, eF (wF w b c).params k x t)] 0 0 [] []) := by cases b <;> exact both_of (by kernel_rfl)
theorem esA4t_run : Both (sim (VW (wF w b c)) none ρ τ (esZ1 (wF w b c).params L k x (csA.getD 4 (0, []))) 300 esA4t_h (esK1 x t (csA.getD 4 (0, []))) [] 8 .base (esC (o881 (wF w b c).params) 881 L) (finF (exF [stAt (esB (o881 (wF w b c).params)) 4] (entOf (o881 (wF w b c).params) 881 L).env)) [(L, eF (wF w b c).params k x t)] 0 0 [] []) := by cases b <;> exact both_of (by kernel_rfl)
theorem esA4f_run : Both (sim (VW (wF w b c)) none ρ τ (esZ2 (wF w b c).params L k x t) 300 esA4f_h (esK2 x t (csA.getD 4 (0, []))) [] 8 .base (esC (o881 (wF w b c).params) 881 L) (finF (exF [stAt (esB (o881 (wF w b c).params)) 4] (entOf (o881 (wF w b c).params) 881 L).env)) [(L, eF (wF w b c).params k x t)] 0 0 [] []) := by cases b <;> exact both_of (by kernel_rfl)
theorem esA5t_run : Both (sim (VW (wF w b c)) none ρ τ (esZ1 (wF w b c).params L k x (csA.getD 5 (0, []))) 300 esA5t_h (esK1 x t (csA.getD 5 (0, []))) [] 8 .base (esC (o881 (wF w b c).params) 881 L) (finF (exF [stAt (esB (o881 (wF w b c).params)) 5] (entOf (o881 (wF w b c).params) 881 L).env)) [(L, eF (wF w b c).params k x t)] 0 0 [] []) := by cases b <;> exact both_of (by kernel_rfl)
theorem esA5f_run : Both (sim (VW (wF w b c)) none ρ τ (esZ2 (wF w b c).params L k x t) 300 esA5f_h (esK2 x t (csA.getD 5 (0, []))) [] 8 .base (esC (o881 (wF w b c).params) 881 L) (finF (exF [stAt (esB (o881 (wF w b c).params)) 5] (entOf (o881 (wF w b c).params) 881 L).env)) [(L, eF (wF w b c).params k x t)] 0 0 [] []) := by cases b <;> exact both_of (by kernel_rfl)
theorem esA6t_run : Both (sim (VW (wF w b c)) none ρ τ (esZ1 (wF w b c).params L k x (csA.getD 6 (0, []))) 300 esA6t_h (esK1 x t (csA.getD 6 (0, []))) [] 8 .base (esC (o881 (wF w b c).params) 881 L) (finF (exF [stAt (esB (o881 (wF w b c).params)) 6] (entOf (o881 (wF w b c).params) 881 L).env)) [(L, eF (wF w b c).params k x t)] 0 0 [] []) := by cases b <;> exact both_of (by kernel_rfl)
theorem esA6f_run : Both (sim (VW (wF w b c)) none ρ τ (esZ2 (wF w b c).params L k x t) 300 esA6f_h (esK2 x t (csA.getD 6 (0, []))) [] 8 .base (esC (o881 (wF w b c).params) 881 L) (finF (exF [stAt (esB (o881 (wF w b c).params)) 6] (entOf (o881 (wF w b c).params) 881 L).env)) [(L, eF (wF w b c).params k x t)] 0 0 [] []) := by cases b <;> exact both_of (by kernel_rfl)
theorem esAr_run : Both (sim (VW (wF w b c)) none ρ τ (esZ3 (wF w b c).params L k x t) 300 esAr_h [] [] 8 .base (esC (o881 (wF w b c).params) 881 L) (finF (exF [stAt (esB (o881 (wF w b c).params)) 7] (entOf (o881 (wF w b c).params) 881 L).env)) [(L, eF (wF w b c).params k x t)] 0 0 [] []) := by cases b <;> exact both_of (by kernel_rfl)
theorem esH_run : Both (runOf (wF w b c) ρ τ 100 (esZ0 (wF w b c).params x t (o888 (wF w b c).params) 888) esH_h [] (esH_e (wF w b c)) 8 (.call (.ref 888) ⟨[sv x t], []⟩) []) := both_of (by kernel_rfl)
theorem esH0t_run : Both (sim (VW (wF w b c)) none ρ τ (esZ1 (wF w b c).params L k x (csH.getD 0 (0, []))) 300 esH0t_h (esK1 x t (csH.getD 0 (0, []))) [] 8 .base (esC (o888 (wF w b c).params) 888 L) (finF (exF [stAt (esB (o888 (wF w b c).params)) 0] (entOf (o888 (wF w b c).params) 888 L).env)) [(L, eF (wF w b c).params k x t)] 0 0 [] []) := by cases b <;> exact both_of (by kernel_rfl)
theorem esH0f_run : Both (sim (VW (wF w b c)) none ρ τ (esZ2 (wF w b c).params L k x t) 300 esH0f_h (esK2 x t (csH.getD 0 (0, []))) [] 8 .base (esC (o888 (wF w b c).params) 888 L) (finF (exF [stAt (esB (o888 (wF w b c).params)) 0] (entOf (o888 (wF w b c).params) 888 L).env)) [(L, eF (wF w b c).params k x t)] 0 0 [] []) := by cases b <;> exact both_of (by kernel_rfl)
theorem esH1t_run : Both (sim (VW (wF w b c)) none ρ τ (esZ1 (wF w b c).params L k x (csH.getD 1 (0, []))) 300 esH1t_h (esK1 x t (csH.getD 1 (0, []))) [] 8 .base (esC (o888 (wF w b c).params) 888 L) (finF (exF [stAt (esB (o888 (wF w b c).params)) 1] (entOf (o888 (wF w b c).params) 888 L).env)) [(L, eF (wF w b c).params k x t)] 0 0 [] []) := by cases b <;> exact both_of (by kernel_rfl)
theorem esH1f_run : Both (sim (VW (wF w b c)) none ρ τ (esZ2 (wF w b c).params L k x t) 300 esH1f_h (esK2 x t (csH.getD 1 (0, []))) [] 8 .base (esC (o888 (wF w b c).params) 888 L) (finF (exF [stAt (esB (o888 (wF w b c).params)) 1] (entOf (o888 (wF w b c).params) 888 L).env)) [(L, eF (wF w b c).params k x t)] 0 0 [] []) := by cases b <;> exact both_of (by kernel_rfl)
theorem esH2t_run : Both (sim (VW (wF w b c)) none ρ τ (esZ1 (wF w b c).params L k x (csH.getD 2 (0, []))) 300 esH2t_h (esK1 x t (csH.getD 2 (0, []))) [] 8 .base (esC (o888 (wF w b c).params) 888 L) (finF (exF [stAt (esB (o888 (wF w b c).params)) 2] (entOf (o888 (wF w b c).params) 888 L).env)) [(L, eF (wF w b c).params k x t)] 0 0 [] []) := by cases b <;> exact both_of (by kernel_rfl)
theorem esH2f_run : Both (sim (VW (wF w b c)) none ρ τ (esZ2 (wF w b c).params L k x t) 300 esH2f_h (esK2 x t (csH.getD 2 (0, []))) [] 8 .base (esC (o888 (wF w b c).params) 888 L) (finF (exF [stAt (esB (o888 (wF w b c).params)) 2] (entOf (o888 (wF w b c).params) 888 L).env)) [(L, eF (wF w b c).params k x t)] 0 0 [] []) := by cases b <;> exact both_of (by kernel_rfl)
theorem esHr_run : Both (sim (VW (wF w b c)) none ρ τ (esZ3 (wF w b c).params L k x t) 300 esHr_h [] [] 8 .base (esC (o888 (wF w b c).params) 888 L) (finF (exF [stAt (esB (o888 (wF w b c).params)) 3] (entOf (o888 (wF w b c).params) 888 L).env)) [(L, eF (wF w b c).params k x t)] 0 0 [] []) := by cases b <;> exact both_of (by kernel_rfl)
theorem esE_run : Both (runOf (wF w b c) ρ τ 100 (esZ0 (wF w b c).params x t (o895 (wF w b c).params) 895) esE_h [] (esE_e (wF w b c)) 8 (.call (.ref 895) ⟨[sv x t], []⟩) []) := both_of (by kernel_rfl)
theorem esE0t_run : Both (sim (VW (wF w b c)) none ρ τ (esZ1 (wF w b c).params L k x (csE.getD 0 (0, []))) 300 esE0t_h (esK1 x t (csE.getD 0 (0, []))) [] 8 .base (esC (o895 (wF w b c).params) 895 L) (finF (exF [stAt (esB (o895 (wF w b c).params)) 0] (entOf (o895 (wF w b c).params) 895 L).env)) [(L, eF (wF w b c).params k x t)] 0 0 [] []) := by cases b <;> exact both_of (by kernel_rfl)
theorem esE0f_run : Both (sim (VW (wF w b c)) none ρ τ (esZ2 (wF w b c).params L k x t) 300 esE0f_h (esK2 x t (csE.getD 0 (0, []))) [] 8 .base (esC (o895 (wF w b c).params) 895 L) (finF (exF [stAt (esB (o895 (wF w b c).params)) 0] (entOf (o895 (wF w b c).params) 895 L).env)) [(L, eF (wF w b c).params k x t)] 0 0 [] []) := by cases b <;> exact both_of (by kernel_rfl)
theorem esE1t_run : Both (sim (VW (wF w b c)) none ρ τ (esZ1 (wF w b c).params L k x (csE.getD 1 (0, []))) 300 esE1t_h (esK1 x t (csE.getD 1 (0, []))) [] 8 .base (esC (o895 (wF w b c).params) 895 L) (finF (exF [stAt (esB (o895 (wF w b c).params)) 1] (entOf (o895 (wF w b c).params) 895 L).env)) [(L, eF (wF w b c).params k x t)] 0 0 [] []) := by cases b <;> exact both_of (by kernel_rfl)
theorem esE1f_run : Both (sim (VW (wF w b c)) none ρ τ (esZ2 (wF w b c).params L k x t) 300 esE1f_h (esK2 x t (csE.getD 1 (0, []))) [] 8 .base (esC (o895 (wF w b c).params) 895 L) (finF (exF [stAt (esB (o895 (wF w b c).params)) 1] (entOf (o895 (wF w b c).params) 895 L).env)) [(L, eF (wF w b c).params k x t)] 0 0 [] []) := by cases b <;> exact both_of (by kernel_rfl)
theorem esE2t_run : Both (sim (VW (wF w b c)) none ρ τ (esZ1 (wF w b c).params L k x (csE.getD 2 (0, []))) 300 esE2t_h (esK1 x t (csE.getD 2 (0, []))) [] 8 .base (esC (o895 (wF w b c).params) 895 L) (finF (exF [stAt (esB (o895 (wF w b c).params)) 2] (entOf (o895 (wF w b c).params) 895 L).env)) [(L, eF (wF w b c).params k x t)] 0 0 [] []) := by cases b <;> exact both_of (by kernel_rfl)
theorem esE2f_run : Both (sim (VW (wF w b c)) none ρ τ (esZ2 (wF w b c).params L k x t) 300 esE2f_h (esK2 x t (csE.getD 2 (0, []))) [] 8 .base (esC (o895 (wF w b c).params) 895 L) (finF (exF [stAt (esB (o895 (wF w b c).params)) 2] (entOf (o895 (wF w b c).params) 895 L).env)) [(L, eF (wF w b c).params k x t)] 0 0 [] []) := by cases b <;> exact both_of (by kernel_rfl)
theorem esE3t_run : Both (sim (VW (wF w b c)) none ρ τ (esZ1 (wF w b c).params L k x (csE.getD 3 (0, []))) 300 esE3t_h (esK1 x t (csE.getD 3 (0, []))) [] 8 .base (esC (o895 (wF w b c).params) 895 L) (finF (exF [stAt (esB (o895 (wF w b c).params)) 3] (entOf (o895 (wF w b c).params) 895 L).env)) [(L, eF (wF w b c).params k x t)] 0 0 [] []) := by cases b <;> exact both_of (by kernel_rfl)
theorem esE3f_run : Both (sim (VW (wF w b c)) none ρ τ (esZ2 (wF w b c).params L k x t) 300 esE3f_h (esK2 x t (csE.getD 3 (0, []))) [] 8 .base (esC (o895 (wF w b c).params) 895 L) (finF (exF [stAt (esB (o895 (wF w b c).params)) 3] (entOf (o895 (wF w b c).params) 895 L).env)) [(L, eF (wF w b c).params k x t)] 0 0 [] []) := by cases b <;> exact both_of (by kernel_rfl)
theorem esEr_run : Both (sim (VW (wF w b c)) none ρ τ (esZ3 (wF w b c).params L k x t) 300 esEr_h [] [] 8 .base (esC (o895 (wF w b c).params) 895 L) (finF (exF [stAt (esB (o895 (wF w b c).params)) 4] (entOf (o895 (wF w b c).params) 895 L).env)) [(L, eF (wF w b c).params k x t)] 0 0 [] []) := by cases b <;> exact both_of (by kernel_rfl)
theorem esD_run : Both (runOf (wF w b c) ρ τ 100 (esZ0 (wF w b c).params x t (o902 (wF w b c).params) 902) esD_h [] (esD_e (wF w b c)) 8 (.call (.ref 902) ⟨[sv x t], []⟩) []) := both_of (by kernel_rfl)
theorem esD0t_run : Both (sim (VW (wF w b c)) none ρ τ (esZ1 (wF w b c).params L k x (csD.getD 0 (0, []))) 300 esD0t_h (esK1 x t (csD.getD 0 (0, []))) [] 8 .base (esC (o902 (wF w b c).params) 902 L) (finF (exF [stAt (esB (o902 (wF w b c).params)) 0] (entOf (o902 (wF w b c).params) 902 L).env)) [(L, eF (wF w b c).params k x t)] 0 0 [] []) := by cases b <;> exact both_of (by kernel_rfl)
theorem esD0f_run : Both (sim (VW (wF w b c)) none ρ τ (esZ2 (wF w b c).params L k x t) 300 esD0f_h (esK2 x t (csD.getD 0 (0, []))) [] 8 .base (esC (o902 (wF w b c).params) 902 L) (finF (exF [stAt (esB (o902 (wF w b c).params)) 0] (entOf (o902 (wF w b c).params) 902 L).env)) [(L, eF (wF w b c).params k x t)] 0 0 [] []) := by cases b <;> exact both_of (by kernel_rfl)
theorem esD1t_run : Both (sim (VW (wF w b c)) none ρ τ (esZ1 (wF w b c).params L k x (csD.getD 1 (0, []))) 300 esD1t_h (esK1 x t (csD.getD 1 (0, []))) [] 8 .base (esC (o902 (wF w b c).params) 902 L) (finF (exF [stAt (esB (o902 (wF w b c).params)) 1] (entOf (o902 (wF w b c).params) 902 L).env)) [(L, eF (wF w b c).params k x t)] 0 0 [] []) := by cases b <;> exact both_of (by kernel_rfl)
theorem esD1f_run : Both (sim (VW (wF w b c)) none ρ τ (esZ2 (wF w b c).params L k x t) 300 esD1f_h (esK2 x t (csD.getD 1 (0, []))) [] 8 .base (esC (o902 (wF w b c).params) 902 L) (finF (exF [stAt (esB (o902 (wF w b c).params)) 1] (entOf (o902 (wF w b c).params) 902 L).env)) [(L, eF (wF w b c).params k x t)] 0 0 [] []) := by cases b <;> exact both_of (by kernel_rfl)
theorem esD2t_run : Both (sim (VW (wF w b c)) none ρ τ (esZ1 (wF w b c).params L k x (csD.getD 2 (0, []))) 300 esD2t_h (esK1 x t (csD.getD 2 (0, []))) [] 8 .base (esC (o902 (wF w b c).params) 902 L) (finF (exF [stAt (esB (o902 (wF w b c).params)) 2] (entOf (o902 (wF w b c).params) 902 L).env)) [(L, eF (wF w b c).params k x t)] 0 0 [] []) := by cases b <;> exact both_of (by kernel_rfl)
theorem esD2f_run : Both (sim (VW (wF w b c)) none ρ τ (esZ2 (wF w b c).params L k x t) 300 esD2f_h (esK2 x t (csD.getD 2 (0, []))) [] 8 .base (esC (o902 (wF w b c).params) 902 L) (finF (exF [stAt (esB (o902 (wF w b c).params)) 2] (entOf (o902 (wF w b c).params) 902 L).env)) [(L, eF (wF w b c).params k x t)] 0 0 [] []) := by cases b <;> exact both_of (by kernel_rfl)
theorem esD3t_run : Both (sim (VW (wF w b c)) none ρ τ (esZ1 (wF w b c).params L k x (csD.getD 3 (0, []))) 300 esD3t_h (esK1 x t (csD.getD 3 (0, []))) [] 8 .base (esC (o902 (wF w b c).params) 902 L) (finF (exF [stAt (esB (o902 (wF w b c).params)) 3] (entOf (o902 (wF w b c).params) 902 L).env)) [(L, eF (wF w b c).params k x t)] 0 0 [] []) := by cases b <;> exact both_of (by kernel_rfl)
theorem esD3f_run : Both (sim (VW (wF w b c)) none ρ τ (esZ2 (wF w b c).params L k x t) 300 esD3f_h (esK2 x t (csD.getD 3 (0, []))) [] 8 .base (esC (o902 (wF w b c).params) 902 L) (finF (exF [stAt (esB (o902 (wF w b c).params)) 3] (entOf (o902 (wF w b c).params) 902 L).env)) [(L, eF (wF w b c).params k x t)] 0 0 [] []) := by cases b <;> exact both_of (by kernel_rfl)
theorem esD4t_run : Both (sim (VW (wF w b c)) none ρ τ (esZ1 (wF w b c).params L k x (csD.getD 4 (0, []))) 300 esD4t_h (esK1 x t (csD.getD 4 (0, []))) [] 8 .base (esC (o902 (wF w b c).params) 902 L) (finF (exF [stAt (esB (o902 (wF w b c).params)) 4] (entOf (o902 (wF w b c).params) 902 L).env)) [(L, eF (wF w b c).params k x t)] 0 0 [] []) := by cases b <;> exact both_of (by kernel_rfl)
theorem esD4f_run : Both (sim (VW (wF w b c)) none ρ τ (esZ2 (wF w b c).params L k x t) 300 esD4f_h (esK2 x t (csD.getD 4 (0, []))) [] 8 .base (esC (o902 (wF w b c).params) 902 L) (finF (exF [stAt (esB (o902 (wF w b c).params)) 4] (entOf (o902 (wF w b c).params) 902 L).env)) [(L, eF (wF w b c).params k x t)] 0 0 [] []) := by cases b <;> exact both_of (by kernel_rfl)
theorem esD5t_run : Both (sim (VW (wF w b c)) none ρ τ (esZ1 (wF w b c).params L k x (csD.getD 5 (0, []))) 300 esD5t_h (esK1 x t (csD.getD 5 (0, []))) [] 8 .base (esC (o902 (wF w b c).params) 902 L) (finF (exF [stAt (esB (o902 (wF w b c).params)) 5] (entOf (o902 (wF w b c).params) 902 L).env)) [(L, eF (wF w b c).params k x t)] 0 0 [] []) := by cases b <;> exact both_of (by kernel_rfl)
theorem esD5f_run : Both (sim (VW (wF w b c)) none ρ τ (esZ2 (wF w b c).params L k x t) 300 esD5f_h (esK2 x t (csD.getD 5 (0, []))) [] 8 .base (esC (o902 (wF w b c).params) 902 L) (finF (exF [stAt (esB (o902 (wF w b c).params)) 5] (entOf (o902 (wF w b c).params) 902 L).env)) [(L, eF (wF w b c).params k x t)] 0 0 [] []) := by cases b <;> exact both_of (by kernel_rfl)
theorem esDr_run : Both (sim (VW (wF w b c)) none ρ τ (esZ3 (wF w b c).params L k x t) 300 esDr_h [] [] 8 .base (esC (o902 (wF w b c).params) 902 L) (finF (exF [stAt (esB (o902 (wF w b c).params)) 6] (entOf (o902 (wF w b c).params) 902 L).env)) [(L, eF (wF w b c).params k x t)] 0 0 [] []) := by cases b <;> exact both_of (by kernel_rfl)
end
theorem kEsC_ok {w : World} {b c : Bool} {x : List Nat} {t : Tok} (hb : (escs csC x).length * 8 ≤ sizeLine) : Cut.Ok (VW (wF w b c)) (kEs 874 csC x t) := by
  refine spec_run (fun ρ τ => esC_run w b c x t ρ τ) Oks.nil fun ρ τ => ?_
  have all : ∀ L k, SpecX (VW (wF w b c)) none 8 (esC (o874 (wF w b c).params) 874 L) (execs ((esB (o874 (wF w b c).params)).drop 0) (entOf (o874 (wF w b c).params) 874 L).env) [(L, eF (wF w b c).params k x t)] fun r D => ∃ t', r = .ok (.ret (sv (escs csC x) t')) ∧ D = [(L, eF (wF w b c).params k (escs csC x) t')] := fun L k => by
    refine esc_all csC 0 x t (of_decide_eq_true (by kernel_rfl)) csC_ok (fun j p hj => ?_) (fun x t => run_ex (fun ρ τ => esCr_run w b c L k x t ρ τ) Oks.nil fun ρ τ => ⟨_, rfl, rfl, rfl⟩) hb
    match j, hj with
    | 0, hj => cases hj; rw [Nat.zero_add]; exact one_ok (by decide) (by decide) (fun x t ρ τ => esC0t_run w b c L k x t ρ τ) (fun x t ρ τ => esC0f_run w b c L k x t ρ τ)
    | 1, hj => cases hj; rw [Nat.zero_add]; exact one_ok (by decide) (by decide) (fun x t ρ τ => esC1t_run w b c L k x t ρ τ) (fun x t ρ τ => esC1f_run w b c L k x t ρ τ)
    | 2, hj => cases hj; rw [Nat.zero_add]; exact one_ok (by decide) (by decide) (fun x t ρ τ => esC2t_run w b c L k x t ρ τ) (fun x t ρ τ => esC2f_run w b c L k x t ρ τ)
    | n + 3, hj => cases hj
  exact (spec_func (P := fun r D => ∃ t' L' o, r = .ok (.ret (sv (escs csC x) t')) ∧ D = [(L', o)]) (SpecX.try1 (all (ρ 0) (τ 0)) fun r D ⟨t', e, _⟩ => ⟨_, e⟩) fun r D ⟨t', e, d⟩ => ⟨_, e, t', _, _, rfl, d⟩).drop fun r D ⟨t', L', o, e, d⟩ => ⟨[], D, .refl _, [], [t'], rfl, rfl, e, rfl⟩
theorem kEsA_ok {w : World} {b c : Bool} {x : List Nat} {t : Tok} (hb : (escs csA x).length * 8 ≤ sizeLine) : Cut.Ok (VW (wF w b c)) (kEs 881 csA x t) := by
  refine spec_run (fun ρ τ => esA_run w b c x t ρ τ) Oks.nil fun ρ τ => ?_
  have all : ∀ L k, SpecX (VW (wF w b c)) none 8 (esC (o881 (wF w b c).params) 881 L) (execs ((esB (o881 (wF w b c).params)).drop 0) (entOf (o881 (wF w b c).params) 881 L).env) [(L, eF (wF w b c).params k x t)] fun r D => ∃ t', r = .ok (.ret (sv (escs csA x) t')) ∧ D = [(L, eF (wF w b c).params k (escs csA x) t')] := fun L k => by
    refine esc_all csA 0 x t (of_decide_eq_true (by kernel_rfl)) csA_ok (fun j p hj => ?_) (fun x t => run_ex (fun ρ τ => esAr_run w b c L k x t ρ τ) Oks.nil fun ρ τ => ⟨_, rfl, rfl, rfl⟩) hb
    match j, hj with
    | 0, hj => cases hj; rw [Nat.zero_add]; exact one_ok (by decide) (by decide) (fun x t ρ τ => esA0t_run w b c L k x t ρ τ) (fun x t ρ τ => esA0f_run w b c L k x t ρ τ)
    | 1, hj => cases hj; rw [Nat.zero_add]; exact one_ok (by decide) (by decide) (fun x t ρ τ => esA1t_run w b c L k x t ρ τ) (fun x t ρ τ => esA1f_run w b c L k x t ρ τ)
    | 2, hj => cases hj; rw [Nat.zero_add]; exact one_ok (by decide) (by decide) (fun x t ρ τ => esA2t_run w b c L k x t ρ τ) (fun x t ρ τ => esA2f_run w b c L k x t ρ τ)
    | 3, hj => cases hj; rw [Nat.zero_add]; exact one_ok (by decide) (by decide) (fun x t ρ τ => esA3t_run w b c L k x t ρ τ) (fun x t ρ τ => esA3f_run w b c L k x t ρ τ)
    | 4, hj => cases hj; rw [Nat.zero_add]; exact one_ok (by decide) (by decide) (fun x t ρ τ => esA4t_run w b c L k x t ρ τ) (fun x t ρ τ => esA4f_run w b c L k x t ρ τ)
    | 5, hj => cases hj; rw [Nat.zero_add]; exact one_ok (by decide) (by decide) (fun x t ρ τ => esA5t_run w b c L k x t ρ τ) (fun x t ρ τ => esA5f_run w b c L k x t ρ τ)
    | 6, hj => cases hj; rw [Nat.zero_add]; exact one_ok (by decide) (by decide) (fun x t ρ τ => esA6t_run w b c L k x t ρ τ) (fun x t ρ τ => esA6f_run w b c L k x t ρ τ)
    | n + 7, hj => cases hj
  exact (spec_func (P := fun r D => ∃ t' L' o, r = .ok (.ret (sv (escs csA x) t')) ∧ D = [(L', o)]) (SpecX.try1 (all (ρ 0) (τ 0)) fun r D ⟨t', e, _⟩ => ⟨_, e⟩) fun r D ⟨t', e, d⟩ => ⟨_, e, t', _, _, rfl, d⟩).drop fun r D ⟨t', L', o, e, d⟩ => ⟨[], D, .refl _, [], [t'], rfl, rfl, e, rfl⟩
theorem kEsH_ok {w : World} {b c : Bool} {x : List Nat} {t : Tok} (hb : (escs csH x).length * 8 ≤ sizeLine) : Cut.Ok (VW (wF w b c)) (kEs 888 csH x t) := by
  refine spec_run (fun ρ τ => esH_run w b c x t ρ τ) Oks.nil fun ρ τ => ?_
  have all : ∀ L k, SpecX (VW (wF w b c)) none 8 (esC (o888 (wF w b c).params) 888 L) (execs ((esB (o888 (wF w b c).params)).drop 0) (entOf (o888 (wF w b c).params) 888 L).env) [(L, eF (wF w b c).params k x t)] fun r D => ∃ t', r = .ok (.ret (sv (escs csH x) t')) ∧ D = [(L, eF (wF w b c).params k (escs csH x) t')] := fun L k => by
    refine esc_all csH 0 x t (of_decide_eq_true (by kernel_rfl)) csH_ok (fun j p hj => ?_) (fun x t => run_ex (fun ρ τ => esHr_run w b c L k x t ρ τ) Oks.nil fun ρ τ => ⟨_, rfl, rfl, rfl⟩) hb
    match j, hj with
    | 0, hj => cases hj; rw [Nat.zero_add]; exact one_ok (by decide) (by decide) (fun x t ρ τ => esH0t_run w b c L k x t ρ τ) (fun x t ρ τ => esH0f_run w b c L k x t ρ τ)
    | 1, hj => cases hj; rw [Nat.zero_add]; exact one_ok (by decide) (by decide) (fun x t ρ τ => esH1t_run w b c L k x t ρ τ) (fun x t ρ τ => esH1f_run w b c L k x t ρ τ)
    | 2, hj => cases hj; rw [Nat.zero_add]; exact one_ok (by decide) (by decide) (fun x t ρ τ => esH2t_run w b c L k x t ρ τ) (fun x t ρ τ => esH2f_run w b c L k x t ρ τ)
    | n + 3, hj => cases hj
  exact (spec_func (P := fun r D => ∃ t' L' o, r = .ok (.ret (sv (escs csH x) t')) ∧ D = [(L', o)]) (SpecX.try1 (all (ρ 0) (τ 0)) fun r D ⟨t', e, _⟩ => ⟨_, e⟩) fun r D ⟨t', e, d⟩ => ⟨_, e, t', _, _, rfl, d⟩).drop fun r D ⟨t', L', o, e, d⟩ => ⟨[], D, .refl _, [], [t'], rfl, rfl, e, rfl⟩
theorem kEsE_ok {w : World} {b c : Bool} {x : List Nat} {t : Tok} (hb : (escs csE x).length * 8 ≤ sizeLine) : Cut.Ok (VW (wF w b c)) (kEs 895 csE x t) := by
  refine spec_run (fun ρ τ => esE_run w b c x t ρ τ) Oks.nil fun ρ τ => ?_
  have all : ∀ L k, SpecX (VW (wF w b c)) none 8 (esC (o895 (wF w b c).params) 895 L) (execs ((esB (o895 (wF w b c).params)).drop 0) (entOf (o895 (wF w b c).params) 895 L).env) [(L, eF (wF w b c).params k x t)] fun r D => ∃ t', r = .ok (.ret (sv (escs csE x) t')) ∧ D = [(L, eF (wF w b c).params k (escs csE x) t')] := fun L k => by
    refine esc_all csE 0 x t (of_decide_eq_true (by kernel_rfl)) csE_ok (fun j p hj => ?_) (fun x t => run_ex (fun ρ τ => esEr_run w b c L k x t ρ τ) Oks.nil fun ρ τ => ⟨_, rfl, rfl, rfl⟩) hb
    match j, hj with
    | 0, hj => cases hj; rw [Nat.zero_add]; exact one_ok (by decide) (by decide) (fun x t ρ τ => esE0t_run w b c L k x t ρ τ) (fun x t ρ τ => esE0f_run w b c L k x t ρ τ)
    | 1, hj => cases hj; rw [Nat.zero_add]; exact one_ok (by decide) (by decide) (fun x t ρ τ => esE1t_run w b c L k x t ρ τ) (fun x t ρ τ => esE1f_run w b c L k x t ρ τ)
    | 2, hj => cases hj; rw [Nat.zero_add]; exact one_ok (by decide) (by decide) (fun x t ρ τ => esE2t_run w b c L k x t ρ τ) (fun x t ρ τ => esE2f_run w b c L k x t ρ τ)
    | 3, hj => cases hj; rw [Nat.zero_add]; exact one_ok (by decide) (by decide) (fun x t ρ τ => esE3t_run w b c L k x t ρ τ) (fun x t ρ τ => esE3f_run w b c L k x t ρ τ)
    | n + 4, hj => cases hj
  exact (spec_func (P := fun r D => ∃ t' L' o, r = .ok (.ret (sv (escs csE x) t')) ∧ D = [(L', o)]) (SpecX.try1 (all (ρ 0) (τ 0)) fun r D ⟨t', e, _⟩ => ⟨_, e⟩) fun r D ⟨t', e, d⟩ => ⟨_, e, t', _, _, rfl, d⟩).drop fun r D ⟨t', L', o, e, d⟩ => ⟨[], D, .refl _, [], [t'], rfl, rfl, e, rfl⟩
theorem kEsD_ok {w : World} {b c : Bool} {x : List Nat} {t : Tok} (hb : (escs csD x).length * 8 ≤ sizeLine) : Cut.Ok (VW (wF w b c)) (kEs 902 csD x t) := by
  refine spec_run (fun ρ τ => esD_run w b c x t ρ τ) Oks.nil fun ρ τ => ?_
  have all : ∀ L k, SpecX (VW (wF w b c)) none 8 (esC (o902 (wF w b c).params) 902 L) (execs ((esB (o902 (wF w b c).params)).drop 0) (entOf (o902 (wF w b c).params) 902 L).env) [(L, eF (wF w b c).params k x t)] fun r D => ∃ t', r = .ok (.ret (sv (escs csD x) t')) ∧ D = [(L, eF (wF w b c).params k (escs csD x) t')] := fun L k => by
    refine esc_all csD 0 x t (of_decide_eq_true (by kernel_rfl)) csD_ok (fun j p hj => ?_) (fun x t => run_ex (fun ρ τ => esDr_run w b c L k x t ρ τ) Oks.nil fun ρ τ => ⟨_, rfl, rfl, rfl⟩) hb
    match j, hj with
    | 0, hj => cases hj; rw [Nat.zero_add]; exact one_ok (by decide) (by decide) (fun x t ρ τ => esD0t_run w b c L k x t ρ τ) (fun x t ρ τ => esD0f_run w b c L k x t ρ τ)
    | 1, hj => cases hj; rw [Nat.zero_add]; exact one_ok (by decide) (by decide) (fun x t ρ τ => esD1t_run w b c L k x t ρ τ) (fun x t ρ τ => esD1f_run w b c L k x t ρ τ)
    | 2, hj => cases hj; rw [Nat.zero_add]; exact one_ok (by decide) (by decide) (fun x t ρ τ => esD2t_run w b c L k x t ρ τ) (fun x t ρ τ => esD2f_run w b c L k x t ρ τ)
    | 3, hj => cases hj; rw [Nat.zero_add]; exact one_ok (by decide) (by decide) (fun x t ρ τ => esD3t_run w b c L k x t ρ τ) (fun x t ρ τ => esD3f_run w b c L k x t ρ τ)
    | 4, hj => cases hj; rw [Nat.zero_add]; exact one_ok (by decide) (by decide) (fun x t ρ τ => esD4t_run w b c L k x t ρ τ) (fun x t ρ τ => esD4f_run w b c L k x t ρ τ)
    | 5, hj => cases hj; rw [Nat.zero_add]; exact one_ok (by decide) (by decide) (fun x t ρ τ => esD5t_run w b c L k x t ρ τ) (fun x t ρ τ => esD5f_run w b c L k x t ρ τ)
    | n + 6, hj => cases hj
  exact (spec_func (P := fun r D => ∃ t' L' o, r = .ok (.ret (sv (escs csD x) t')) ∧ D = [(L', o)]) (SpecX.try1 (all (ρ 0) (τ 0)) fun r D ⟨t', e, _⟩ => ⟨_, e⟩) fun r D ⟨t', e, d⟩ => ⟨_, e, t', _, _, rfl, d⟩).drop fun r D ⟨t', L', o, e, d⟩ => ⟨[], D, .refl _, [], [t'], rfl, rfl, e, rfl⟩
end Mine
end
section
open PySem PySem.W PySem.W.X PyProof.Rows
set_option Elab.async false
set_option maxRecDepth 100000
namespace Mine
noncomputable def qu_h : List Nat := [0, 0, 1, 0, 1, 1, 0, 0, 1, 0, 0, 0, 0, 0, 0, 1, 0, 1, 1000, 0, 1, 0, 0, 1, 0, 0, 1, 0, 0]
noncomputable def qu_e (w : World) : List (Of Ent) := [fun ρ _ => entOf (o752 w.params) 752 (ρ 0)]
end Mine
end
section
open PySem PySem.W PySem.W.X PyProof.Rows
set_option Elab.async false
set_option maxRecDepth 100000
namespace Mine
theorem qu_run (w : World) (b c : Bool) (ρ : Nat → Addr) (τ : Nat → Tok) (u : List Nat) (t : Tok) : Both (runOf (wF w b c) ρ τ 300 (quZ u) qu_h (quK u t) (qu_e (wF w b c)) 8 (.call (.ref 752) ⟨[sv (39 :: u) t], []⟩) []) := by
  cases b <;> exact both_of (by kernel_rfl)
theorem repl_len {c : Nat} {e : List Nat} : ∀ x : List Nat, (repl c e x).length ≤ x.length + x.length * e.length
  | [] => by simp [repl]
  | d :: x => by
    have ih := repl_len (c := c) (e := e) x
    rw [List.length_cons, Nat.succ_mul]
    show (match Nat.beq d c with | true => e ++ repl c e x | false => d :: repl c e x).length ≤ _
    cases Nat.beq d c <;> simp <;> omega
theorem kQu_ok {w : World} {b c : Bool} {u : List Nat} {t : Tok} (hu : (u.length + 1) * 6 + 2 ≤ sizeLine) : Cut.Ok (VW (wF w b c)) (kQu u t) := by
  have hr := repl_len (c := 39) (e := apo) (39 :: u)
  have l5 : apo.length = 5 := rfl
  rw [l5, List.length_cons] at hr
  have h0 : (repl 39 apo (39 :: u)).length + 2 ≤ sizeLine := by omega
  have ne : repl 39 apo (39 :: u) ≠ [] := by
    show apo ++ repl 39 apo u ≠ []
    simp [apo]
  refine spec_run (fun ρ τ => qu_run w b c ρ τ u t) (Oks.cons (fun _ _ => len_ok (by simp only [List.length_cons]; omega)) <| .cons (fun _ _ => kSe_ok (by omega)) <| .cons (fun _ _ => rep_ok (.head _) (by decide) (by rw [l5, List.length_cons]; omega) (by omega)) <|
    .cons (fun _ _ => add_ok (x := [39]) (by simp) ne (by simp only [List.length_cons, List.length_nil]; omega)) <| .cons (fun _ _ => add_ok (x := 39 :: repl 39 apo (39 :: u)) (y := [39]) (by simp) (by simp) (by simp only [List.length_cons, List.length_nil]; omega)) .nil) fun ρ τ => ⟨[], [τ 7], rfl, rfl, rfl, rfl⟩
end Mine
end
section
open PySem PySem.W PySem.W.X PyProof.Rows
set_option Elab.async false
set_option maxRecDepth 100000
set_option linter.unusedVariables false
namespace Mine
noncomputable def nc0_h : List Nat := [3, 0, 3, 1, 2, 2, 2, 4, 3, 4, 0, 0, 0, 2, 4, 2, 2, 0, 0]
noncomputable def nc0_e (w : World) : List (Of Ent) := []
noncomputable def nc1_h : List Nat := [3, 0, 3, 1, 2, 2, 2, 4, 3, 4, 0, 0, 0, 2, 4, 2, 2, 0, 0]
noncomputable def nc1_e (w : World) : List (Of Ent) := []
noncomputable def nc2_h : List Nat := [3, 0, 3, 1, 2, 2, 2, 4, 3, 4, 0, 0, 0, 4, 0, 3, 1, 1, 2, 2, 4, 0, 2, 0, 0]
noncomputable def nc2_e (w : World) : List (Of Ent) := []
noncomputable def nce_h : List Nat := [3, 0, 3, 1, 2, 2, 2, 3, 2, 4, 4]
noncomputable def nce_e (w : World) : List (Of Ent) := []
end Mine
end
section
open PySem PySem.W PySem.W.X PyProof.Rows
set_option Elab.async false
set_option maxRecDepth 100000
set_option linter.unusedVariables false
namespace Mine
noncomputable def jc0_2_h : List Nat := [3, 0, 3, 1, 2, 2, 2, 4, 3, 0, 4, 5, 1, 1, 4, 2, 0, 1, 0, 0, 5, 1, 1, 4, 2, 5, 0, 4, 2, 2, 0]
noncomputable def jc0_2_e (w : World) : List (Of Ent) := []
noncomputable def jc1_2_h : List Nat := [3, 0, 3, 1, 2, 2, 2, 4, 3, 0, 4, 5, 1, 1, 4, 2, 0, 1, 0, 0, 5, 1, 1, 4, 2, 5, 0, 4, 2, 2, 0]
noncomputable def jc1_2_e (w : World) : List (Of Ent) := []
noncomputable def jc0_3_h : List Nat := [3, 0, 3, 1, 2, 2, 2, 4, 3, 0, 4, 5, 1, 1, 4, 2, 0, 1, 0, 0, 5, 1, 1, 4, 2, 5, 0, 4, 2, 2, 0]
noncomputable def jc0_3_e (w : World) : List (Of Ent) := []
noncomputable def jc1_3_h : List Nat := [3, 0, 3, 1, 2, 2, 2, 4, 3, 0, 4, 5, 1, 1, 4, 2, 0, 1, 0, 0, 5, 1, 1, 4, 2, 5, 0, 4, 2, 2, 0]
noncomputable def jc1_3_e (w : World) : List (Of Ent) := []
noncomputable def jc0_4_h : List Nat := [3, 0, 3, 1, 2, 2, 2, 4, 3, 0, 4, 5, 1, 1, 4, 2, 0, 1, 0, 0, 5, 1, 1, 4, 2, 5, 0, 4, 2, 2, 0]
noncomputable def jc0_4_e (w : World) : List (Of Ent) := []
noncomputable def jc1_4_h : List Nat := [3, 0, 3, 1, 2, 2, 2, 4, 3, 0, 4, 5, 1, 1, 4, 2, 0, 1, 0, 0, 5, 1, 1, 4, 2, 5, 0, 4, 2, 2, 0]
noncomputable def jc1_4_e (w : World) : List (Of Ent) := []
noncomputable def jd0_h : List Nat := [3, 0, 3, 1, 2, 2, 2, 4, 3, 4, 0, 1, 1, 4, 0, 1, 0, 0, 4, 1, 1, 3, 2, 5, 0, 3, 1, 1, 0]
noncomputable def jd0_e (w : World) : List (Of Ent) := []
noncomputable def jd1_h : List Nat := [3, 0, 3, 1, 2, 2, 2, 4, 3, 4, 0, 1, 1, 4, 0, 1, 0, 0, 4, 1, 1, 3, 2, 5, 0, 3, 1, 1, 0]
noncomputable def jd1_e (w : World) : List (Of Ent) := []
noncomputable def jce_h : List Nat := [3, 0, 3, 1, 2, 2, 2, 3, 3, 4, 4, 1]
noncomputable def jce_e (w : World) : List (Of Ent) := []
noncomputable def jde_h : List Nat := [3, 0, 3, 1, 2, 2, 2, 3, 3, 4, 4, 1]
noncomputable def jde_e (w : World) : List (Of Ent) := []
end Mine
end
section
open PySem PySem.W PySem.W.X PyProof.Rows
set_option Elab.async false
set_option maxRecDepth 100000
set_option linter.unusedVariables false
namespace Mine
noncomputable def sl0_h : List Nat := [6, 0, 6, 1, 1, 5, 2, 1, 2, 2, 0, 0, 4, 4, 4, 0, 4, 0, 4, 5, 5, 5, 5, 3, 3, 4, 4, 4, 0, 4, 1, 1, 3, 0, 1, 0, 2, 2, 2, 0, 2, 1, 1, 1, 0, 0, 6, 1, 1, 5, 2, 6, 4, 2, 3, 0, 2, 1]
noncomputable def sl0_e (w : World) : List (Of Ent) := []
noncomputable def sl1_h : List Nat := [6, 0, 6, 1, 1, 5, 2, 1, 2, 2, 0, 0, 4, 4, 4, 0, 4, 0, 4, 6, 6, 6, 6, 3, 3, 4, 4, 4, 0, 4, 1, 1, 3, 0, 1, 0, 2, 2, 2, 0, 2, 1, 1, 1, 0, 0, 7, 1, 1, 6, 2, 6, 4, 2, 3, 3, 0, 1]
noncomputable def sl1_e (w : World) : List (Of Ent) := []
noncomputable def sl2_h : List Nat := [6, 0, 6, 1, 1, 5, 2, 1, 2, 2, 0, 0, 4, 4, 4, 0, 4, 0, 4, 5, 5, 5, 5, 3, 3, 4, 4, 4, 0, 4, 1, 1, 3, 0, 1, 0, 2, 2, 2, 0, 2, 1, 1, 1, 0, 0, 6, 1, 1, 5, 2, 6, 4, 2, 3, 0, 2, 1]
noncomputable def sl2_e (w : World) : List (Of Ent) := []
noncomputable def sl3_h : List Nat := [6, 0, 6, 1, 1, 5, 2, 1, 2, 2, 0, 0, 4, 4, 4, 0, 4, 0, 4, 6, 6, 6, 6, 3, 3, 4, 4, 4, 0, 4, 1, 1, 3, 0, 1, 0, 2, 2, 2, 0, 2, 1, 1, 1, 0, 0, 7, 1, 1, 6, 2, 6, 4, 2, 3, 3, 0, 1]
noncomputable def sl3_e (w : World) : List (Of Ent) := []
noncomputable def sle_h : List Nat := [6, 0, 6, 0, 6, 6, 6, 1, 0, 5, 2, 2, 2, 2, 2]
noncomputable def sle_e (w : World) : List (Of Ent) := []
end Mine
end
section
open PySem PySem.W PySem.W.X PyProof.Rows PySem.Builtin PySem.Builtin.Str
set_option Elab.async false
set_option maxRecDepth 100000
set_option linter.unusedVariables false
namespace Mine
section
variable (w : World) (b c : Bool) (ρ : Nat → Addr) (τ : Nat → Tok) (E : Nat → Tok) (L tc it sc hn st a0 a1 : Addr) (x : List Nat) (tx : Tok) (l : Ints) (ln : Nat) (W0 W1 : List (Stp × Tok)) (n0 n1 r k : Nat) (v : Int) (tv : Tok) (k1 : Tok) (v1 : Value)
theorem sl0_run : Both (runOf (wF w b c) ρ τ 300 (slZ (PW w b c) E L tc it sc hn st a0 a1 x tx l ln (fun τ => τ 1) (fun τ => stV W0 ++ [sv (stl (stpOf (remN v))) (t8 4 τ (remN v))]) (fun _ => stV W1) (n0 + 1) n1 0 r) sl0_h (slK it sc l ln a0 W0 n0 0 r v tv) (sl0_e (wF w b c)) 10 (slC (PW w b c) L tc it) (slD (PW w b c) E L it sc hn st a0 a1 x tx l ln [] W0 W1 n0 n1 0 (r + 1))) := by cases b <;> exact both_of (by kernel_rfl)
theorem sl1_run : Both (runOf (wF w b c) ρ τ 300 (slZ (PW w b c) E L tc it sc hn st a0 a1 x tx l ln (fun _ => k1) (fun _ => stV W0) (fun τ => stV W1 ++ [sv (stl (stpOf (remN v))) (t8 4 τ (remN v))]) n0 (n1 + 1) 1 r) sl1_h (slK it sc l ln a1 W1 n1 1 r v tv) (sl1_e (wF w b c)) 10 (slC (PW w b c) L tc it) (slD (PW w b c) E L it sc hn st a0 a1 x tx l ln (kkE (PW w b c) k1 v1) W0 W1 n0 n1 1 (r + 1))) := by cases b <;> exact both_of (by kernel_rfl)
theorem sl2_run : Both (runOf (wF w b c) ρ τ 300 (slZ (PW w b c) E L tc it sc hn st a0 a1 x tx l ln (fun _ => k1) (fun τ => stV W0 ++ [sv (stl (stpOf (remN v))) (t8 4 τ (remN v))]) (fun _ => stV W1) (n0 + 1) n1 2 r) sl2_h (slK it sc l ln a0 W0 n0 2 r v tv) (sl2_e (wF w b c)) 10 (slC (PW w b c) L tc it) (slD (PW w b c) E L it sc hn st a0 a1 x tx l ln (kkE (PW w b c) k1 v1) W0 W1 n0 n1 2 (r + 1))) := by cases b <;> exact both_of (by kernel_rfl)
theorem sl3_run : Both (runOf (wF w b c) ρ τ 300 (slZ (PW w b c) E L tc it sc hn st a0 a1 x tx l ln (fun _ => k1) (fun _ => stV W0) (fun τ => stV W1 ++ [sv (stl (stpOf (remN v))) (t8 4 τ (remN v))]) n0 (n1 + 1) 3 r) sl3_h (slK it sc l ln a1 W1 n1 3 r v tv) (sl3_e (wF w b c)) 10 (slC (PW w b c) L tc it) (slD (PW w b c) E L it sc hn st a0 a1 x tx l ln (kkE (PW w b c) k1 v1) W0 W1 n0 n1 3 (r + 1))) := by cases b <;> exact both_of (by kernel_rfl)
theorem sle_run (h : List DictEntry) : Both (runOf (wF w b c) ρ τ 200 (slY (PW w b c) E L sc hn st a0 a1 x tx l ln h W0 W1 n0 n1) sle_h [] (sle_e (wF w b c)) 10 (slC (PW w b c) L tc it) (slD (PW w b c) E L it sc hn st a0 a1 x tx l ln h W0 W1 n0 n1 k 0)) := by cases b <;> exact both_of (by kernel_rfl)
end
theorem stV_app : ∀ (W : List (Stp × Tok)) (s : Stp) (t : Tok), stV (W ++ [(s, t)]) = stV W ++ [sv (stl s) t]
  | [], _, _ => rfl
  | p :: W, s, t => congrArg _ (stV_app W s t)
theorem stV_len : ∀ W : List (Stp × Tok), (stV W).length = W.length
  | [] => rfl
  | _ :: W => congrArg (· + 1) (stV_len W)
theorem remN_lt (v : Int) : remN v < 8 ∧ 0 ≤ v.fmod 8 := by
  have h1 : v.fmod 8 = v % 8 := Int.fmod_eq_emod_of_nonneg _ (by decide)
  unfold remN
  rw [h1]
  omega
theorem kLI8_ok {w : World} {a : Addr} {f : Nat → Tok} {v : Int} {t : Tok} : Cut.Ok (VW w) (kLI8 a f v t) := by
  intro A s R _ _ hS ht hR
  have ha : s.heap.get? a = some (listN (disp8 f) 0) := hS.has _ (.head _)
  obtain ⟨h8, h0⟩ := remN_lt v
  have hg : (⟨disp8 f⟩ : Array Value)[(v.fmod 8).toNat]? = some (sv (stl (stpOf (remN v))) (f (remN v))) := by
    show (⟨disp8 f⟩ : Array Value)[remN v]? = _
    have : remN v = 0 ∨ remN v = 1 ∨ remN v = 2 ∨ remN v = 3 ∨ remN v = 4 ∨ remN v = 5 ∨ remN v = 6 ∨ remN v = 7 := by omega
    rcases this with e | e | e | e | e | e | e | e <;> rw [e] <;> rfl
  have hf : Builtin.List.listFitsIndex (v.fmod 8) = true := fitsIndex_of h0 (by
    have h1 : v.fmod 8 = v % 8 := Int.fmod_eq_emod_of_nonneg _ (by decide)
    rw [h1]
    exact Int.lt_of_lt_of_le (Int.emod_lt_of_pos v (by decide : (0 : Int) < 8)) (by decide))
  have fin := hR (.ok (.ret (sv (stl (stpOf (remN v))) (f (remN v))))) _ _ _ ⟨[], [], rfl, rfl, rfl, rfl⟩ (Got.start hS) ht
  refine codeAny_builtin F.entry_list_getitem ?_
  rw [Around.under_plainId (by decide +kernel)]
  show wpAny _ _ (Builtin.«list.__getitem__» ⟨[.ref a, .int (v.fmod 8) t], []⟩) _ _ s
  refine wpAny_mono (list_item (R := R) ha h0 hf hg fin) (fun fin s' h => ?_) fun _ _ e => e
  obtain ⟨r, rfl, h⟩ := h
  exact h
section
variable {w : World} {b c : Bool} {E : Nat → Tok} {L tc it sc hn st a0 a1 : Addr} {x : List Nat} {tx : Tok} {l : Ints} {ln : Nat} {P : Result → Dyn → Prop}
theorem sl_ks {a : Addr} {W : List (Stp × Tok)} {n k r : Nat} {v : Int} {tv : Tok} (hv : (iV l)[k]? = some (.int v tv)) (hk : k < 4) (hW : W.length ≤ 10) : Oks (wF w b c) (slK it sc l ln a W n k r v tv) :=
  .cons (fun _ _ => kRN_ok) <| .cons (fun _ _ => kLG_ok hv (by omega)) <| .cons (fun _ _ => md_ok (by decide)) <| .cons (fun _ _ => kLI8_ok) <| .cons (fun _ _ => kLP_ok (by rw [stV_len]; exact Nat.le_trans hW (by decide))) .nil
theorem iV_at {l : Ints} {k : Nat} (h : k < l.length) : (iV l)[k]? = some (.int (l.getD k (0, 0)).1 (l.getD k (0, 0)).2) := by
  induction l generalizing k with
  | nil => cases h
  | cons p l ih =>
    cases k with
    | zero => rfl
    | succ k =>
      have := ih (k := k) (Nat.lt_of_succ_lt_succ h)
      simpa [iV] using this
theorem sl_t0 {W0 W1 : List (Stp × Tok)} {n0 n1 r : Nat} (hk : 0 < l.length) (h0 : W0.length ≤ 10) (h1 : W1.length ≤ 10)
    (next : ∀ (k' t' u : Tok), Spec (VW (wF w b c)) none 10 (slC (PW w b c) L tc it) (slD (PW w b c) E L it sc hn st a0 a1 x tx l ln (kkE (PW w b c) k' (.int (.ofNat 0) t')) (W0 ++ [(stepAt l 0, u)]) W1 (n0 + 1) n1 1 r) P) :
    Spec (VW (wF w b c)) none 10 (slC (PW w b c) L tc it) (slD (PW w b c) E L it sc hn st a0 a1 x tx l ln [] W0 W1 n0 n1 0 (r + 1)) P := by
  refine spec_run (fun ρ τ => sl0_run w b c ρ τ E L tc it sc hn st a0 a1 x tx l ln W0 W1 n0 n1 r (l.getD 0 (0, 0)).1 (l.getD 0 (0, 0)).2) (sl_ks (iV_at hk) (by decide) h0) fun ρ τ => ?_
  have nx := next (τ 1) (τ 0) (t8 4 τ (remN (l.getD 0 (0, 0)).1))
  unfold slD at nx
  rw [stV_app] at nx
  exact nx
theorem sl_t1 {W0 W1 : List (Stp × Tok)} {n0 n1 r : Nat} {k1 : Tok} {v1 : Value} (hk : 1 < l.length) (h0 : W0.length ≤ 10) (h1 : W1.length ≤ 10)
    (next : ∀ (k' t' u : Tok), Spec (VW (wF w b c)) none 10 (slC (PW w b c) L tc it) (slD (PW w b c) E L it sc hn st a0 a1 x tx l ln (kkE (PW w b c) k' (.int (.ofNat 1) t')) W0 (W1 ++ [(stepAt l 1, u)]) n0 (n1 + 1) 2 r) P) :
    Spec (VW (wF w b c)) none 10 (slC (PW w b c) L tc it) (slD (PW w b c) E L it sc hn st a0 a1 x tx l ln (kkE (PW w b c) k1 v1) W0 W1 n0 n1 1 (r + 1)) P := by
  refine spec_run (fun ρ τ => sl1_run w b c ρ τ E L tc it sc hn st a0 a1 x tx l ln W0 W1 n0 n1 r (l.getD 1 (0, 0)).1 (l.getD 1 (0, 0)).2 k1 v1) (sl_ks (iV_at hk) (by decide) h1) fun ρ τ => ?_
  have nx := next k1 (τ 0) (t8 4 τ (remN (l.getD 1 (0, 0)).1))
  unfold slD at nx
  rw [stV_app] at nx
  exact nx
theorem sl_t2 {W0 W1 : List (Stp × Tok)} {n0 n1 r : Nat} {k1 : Tok} {v1 : Value} (hk : 2 < l.length) (h0 : W0.length ≤ 10) (h1 : W1.length ≤ 10)
    (next : ∀ (k' t' u : Tok), Spec (VW (wF w b c)) none 10 (slC (PW w b c) L tc it) (slD (PW w b c) E L it sc hn st a0 a1 x tx l ln (kkE (PW w b c) k' (.int (.ofNat 2) t')) (W0 ++ [(stepAt l 2, u)]) W1 (n0 + 1) n1 3 r) P) :
    Spec (VW (wF w b c)) none 10 (slC (PW w b c) L tc it) (slD (PW w b c) E L it sc hn st a0 a1 x tx l ln (kkE (PW w b c) k1 v1) W0 W1 n0 n1 2 (r + 1)) P := by
  refine spec_run (fun ρ τ => sl2_run w b c ρ τ E L tc it sc hn st a0 a1 x tx l ln W0 W1 n0 n1 r (l.getD 2 (0, 0)).1 (l.getD 2 (0, 0)).2 k1 v1) (sl_ks (iV_at hk) (by decide) h0) fun ρ τ => ?_
  have nx := next k1 (τ 0) (t8 4 τ (remN (l.getD 2 (0, 0)).1))
  unfold slD at nx
  rw [stV_app] at nx
  exact nx
theorem sl_t3 {W0 W1 : List (Stp × Tok)} {n0 n1 r : Nat} {k1 : Tok} {v1 : Value} (hk : 3 < l.length) (h0 : W0.length ≤ 10) (h1 : W1.length ≤ 10)
    (next : ∀ (k' t' u : Tok), Spec (VW (wF w b c)) none 10 (slC (PW w b c) L tc it) (slD (PW w b c) E L it sc hn st a0 a1 x tx l ln (kkE (PW w b c) k' (.int (.ofNat 3) t')) W0 (W1 ++ [(stepAt l 3, u)]) n0 (n1 + 1) 4 r) P) :
    Spec (VW (wF w b c)) none 10 (slC (PW w b c) L tc it) (slD (PW w b c) E L it sc hn st a0 a1 x tx l ln (kkE (PW w b c) k1 v1) W0 W1 n0 n1 3 (r + 1)) P := by
  refine spec_run (fun ρ τ => sl3_run w b c ρ τ E L tc it sc hn st a0 a1 x tx l ln W0 W1 n0 n1 r (l.getD 3 (0, 0)).1 (l.getD 3 (0, 0)).2 k1 v1) (sl_ks (iV_at hk) (by decide) h1) fun ρ τ => ?_
  have nx := next k1 (τ 0) (t8 4 τ (remN (l.getD 3 (0, 0)).1))
  unfold slD at nx
  rw [stV_app] at nx
  exact nx
theorem kSl8_ok {n : Nat} {q0 c0 c1 q1 : Tok} (hn4 : n ≤ 4) (hl : n ≤ l.length) : Cut.Ok (VW (wF w b c)) (kSl8 (PW w b c) E L tc it sc hn st a0 a1 x tx l ln n q0 c0 c1 q1) := by
  have fin : ∀ (W0 W1 : List (Stp × Tok)) (n0 n1 k : Nat) (h : List DictEntry), Spec (VW (wF w b c)) none 10 (slC (PW w b c) L tc it) (slD (PW w b c) E L it sc hn st a0 a1 x tx l ln h W0 W1 n0 n1 k 0)
      fun r D => r = .ok .next ∧ D = [(L, lwF (PW w b c) E sc hn x tx st h), (sc, listN (iV l) ln), (st, listN [.ref a0, .ref a1] 0), (a0, listN (stV W0) n0), (a1, listN (stV W1) n1)] :=
    fun W0 W1 n0 n1 k h => spec_run (fun ρ τ => sle_run w b c ρ τ E L tc it sc hn st a0 a1 x tx l ln W0 W1 n0 n1 k h) Oks.nil fun ρ τ => ⟨rfl, rfl⟩
  match n, hn4, hl with
  | 0, _, _ => exact (fin _ _ _ _ _ _).mono (Nat.le_refl _) fun r D ⟨e, d⟩ => ⟨[], [0, 0, 0, 0, 0, 0], rfl, rfl, e, d⟩
  | 1, _, hl => exact sl_t0 (by omega) (by simp) (by simp) fun k t u => (fin _ _ _ _ _ _).mono (Nat.le_refl _) fun r D ⟨e, d⟩ => ⟨[], [k, t, u, 0, 0, 0], rfl, rfl, e, d⟩
  | 2, _, hl => exact sl_t0 (by omega) (by simp) (by simp) fun k t u => sl_t1 (by omega) (by simp) (by simp) fun k t v => (fin _ _ _ _ _ _).mono (Nat.le_refl _) fun r D ⟨e, d⟩ => ⟨[], [k, t, u, v, 0, 0], rfl, rfl, e, d⟩
  | 3, _, hl => exact sl_t0 (by omega) (by simp) (by simp) fun k t u => sl_t1 (by omega) (by simp) (by simp) fun k t v => sl_t2 (by omega) (by simp) (by simp) fun k t y => (fin _ _ _ _ _ _).mono (Nat.le_refl _) fun r D ⟨e, d⟩ => ⟨[], [k, t, u, v, y, 0], rfl, rfl, e, d⟩
  | 4, _, hl => exact sl_t0 (by omega) (by simp) (by simp) fun k t u => sl_t1 (by omega) (by simp) (by simp) fun k t v => sl_t2 (by omega) (by simp) (by simp) fun k t y => sl_t3 (by omega) (by simp) (by simp) fun k t z => (fin _ _ _ _ _ _).mono (Nat.le_refl _) fun r D ⟨e, d⟩ => ⟨[], [k, t, u, v, y, z], rfl, rfl, e, d⟩
  | n + 5, h, _ => omega
end
end Mine
end
section
open PySem PySem.W PySem.W.X PyProof.Rows
set_option Elab.async false
set_option maxRecDepth 100000
namespace Mine
noncomputable def j0_h : List Nat := [2, 0, 2, 1, 2, 1, 1, 3, 2, 0, 3, 0, 0, 0, 0, 1, 0, 0, 0, 1, 0, 0, 1, 0, 0, 0, 1, 0, 0, 0, 0, 0, 0, 0, 1, 1, 1, 1, 0, 0, 2, 5, 4, 5, 5, 0, 1, 0, 5, 0, 0, 0, 5, 5, 0, 0, 5, 5, 0, 1, 0, 5, 4, 2, 3, 4, 2, 2]
noncomputable def j0_e (w : World) : List (Of Ent) := [fun ρ _ => entOf (o825 w.params) 825 (ρ 0)]
noncomputable def j1_h : List Nat := [2, 0, 2, 1, 2, 1, 1, 3, 2, 0, 3, 0, 0, 0, 0, 1, 0, 0, 0, 1, 0, 0, 1, 0, 0, 0, 1, 0, 0, 0, 0, 0, 0, 0, 1, 1, 1, 1, 0, 0, 2, 5, 4, 5, 5, 0, 1, 0, 5, 1, 0, 5, 5, 0, 1, 0, 5, 5, 5, 0, 1, 0, 0, 1, 0, 5, 4, 2, 3, 4, 2, 2]
noncomputable def j1_e (w : World) : List (Of Ent) := [fun ρ _ => entOf (o825 w.params) 825 (ρ 0)]
noncomputable def je_h : List Nat := [2, 0, 2, 1, 2, 1, 1, 3, 0, 1, 4]
noncomputable def je_e (w : World) : List (Of Ent) := []
noncomputable def jn2_h : List Nat := [0, 0, 1, 0, 1, 0, 0, 1, 0, 0, 0, 0, 1, 0, 0, 0, 1, 0, 0, 1, 0, 0, 0, 1, 0, 0, 0, 0, 0, 0, 0, 1, 1, 1, 1, 0, 0, 2, 3, 2, 0, 3, 0, 0, 0, 0, 1, 0, 0, 0, 1, 0, 0, 0, 0, 0, 0, 0, 0, 0, 0, 4, 3, 4, 4, 3, 4, 5, 5, 0, 5, 0, 1, 1, 3, 4, 0, 3, 1, 0]
noncomputable def jn2_e (w : World) : List (Of Ent) := [fun ρ _ => entOf (o846 w.params) 846 (ρ 1), fun ρ _ => entOf (o825 w.params) 825 (ρ 2), fun ρ _ => entOf (o839 w.params) 839 (ρ 4)]
noncomputable def jn3_h : List Nat := [0, 0, 1, 0, 1, 0, 0, 1, 0, 0, 0, 0, 1, 0, 0, 0, 1, 0, 0, 1, 0, 0, 0, 1, 0, 0, 0, 0, 0, 0, 0, 1, 1, 1, 1, 0, 0, 2, 3, 2, 0, 3, 0, 0, 0, 0, 1, 0, 0, 0, 1, 0, 0, 0, 0, 0, 0, 0, 0, 0, 0, 4, 3, 4, 4, 3, 4, 5, 5, 0, 5, 0, 1, 1, 3, 4, 0, 3, 1, 0]
noncomputable def jn3_e (w : World) : List (Of Ent) := [fun ρ _ => entOf (o846 w.params) 846 (ρ 1), fun ρ _ => entOf (o825 w.params) 825 (ρ 2), fun ρ _ => entOf (o839 w.params) 839 (ρ 4)]
noncomputable def jn4_h : List Nat := [0, 0, 1, 0, 1, 0, 0, 1, 0, 0, 0, 0, 1, 0, 0, 0, 1, 0, 0, 1, 0, 0, 0, 1, 0, 0, 0, 0, 0, 0, 0, 1, 1, 1, 1, 0, 0, 2, 3, 2, 0, 3, 0, 0, 0, 0, 1, 0, 0, 0, 1, 0, 0, 0, 0, 0, 0, 0, 0, 0, 0, 4, 3, 4, 4, 3, 4, 5, 5, 0, 5, 0, 1, 1, 3, 4, 0, 3, 1, 0]
noncomputable def jn4_e (w : World) : List (Of Ent) := [fun ρ _ => entOf (o846 w.params) 846 (ρ 1), fun ρ _ => entOf (o825 w.params) 825 (ρ 2), fun ρ _ => entOf (o839 w.params) 839 (ρ 4)]
end Mine
end
section
open PySem PySem.W PySem.W.X PyProof.Rows PySem.Builtin.Str
set_option Elab.async false
set_option maxRecDepth 100000
namespace Mine
section
variable (w : World) (b c : Bool) (ρ : Nat → Addr) (τ : Nat → Tok) (E : Nat → Tok) (L it pt : Addr) (ta ts : Tok) (vs : List Value)
theorem j0_run (s : List Nat) (t0 : Tok) : Both (runOf (wF w b c) ρ τ 300 (j0Z (wF w b c).params E L it pt ta ts vs s t0) j0_h (j0K it pt ta ts vs s t0) (j0_e (wF w b c)) 6 (jnC (wF w b c).params L it) (jD L it pt vs (jF0 (wF w b c).params E pt ta ts) 0)) := by
  cases b <;> exact both_of (by kernel_rfl)
theorem j1_run (i : Nat) (kb : Tok) (bv : Value) (u : List Nat) (tu : Tok) (s : List Nat) (t0 : Tok) : Both (runOf (wF w b c) ρ τ 300 (j1Z (wF w b c).params E L it pt ta ts vs i kb u s t0) j1_h (j1K it pt ts vs i u tu s t0) (j1_e (wF w b c)) 6 (jnC (wF w b c).params L it) (jD L it pt vs (jF1 (wF w b c).params E pt ta ts kb bv (sv (47 :: u) tu)) i)) := by
  cases b <;> exact both_of (by kernel_rfl)
theorem je_run (kb : Tok) (bv : Value) (u : List Nat) (tu : Tok) : Both (runOf (wF w b c) ρ τ 300 (jeZ (wF w b c).params E L pt ta ts kb bv u tu) je_h (jeK it pt vs) (je_e (wF w b c)) 6 (jnC (wF w b c).params L it) (jD L it pt vs (jF1 (wF w b c).params E pt ta ts kb bv (sv (47 :: u) tu)) vs.length)) := by
  cases b <;> exact both_of (by kernel_rfl)
theorem jn2_run (p q : List Nat × Tok) : Both (runOf (wF w b c) ρ τ 300 (jnZ [p, q]) jn2_h (jnK (wF w b c).params ta [p, q]) (jn2_e (wF w b c)) 10 (.call (.ref 846) ⟨sv [47] ta :: vsO [p, q], []⟩) []) := by
  cases b <;> exact both_of (by kernel_rfl)
theorem jn3_run (p q r : List Nat × Tok) : Both (runOf (wF w b c) ρ τ 300 (jnZ [p, q, r]) jn3_h (jnK (wF w b c).params ta [p, q, r]) (jn3_e (wF w b c)) 10 (.call (.ref 846) ⟨sv [47] ta :: vsO [p, q, r], []⟩) []) := by
  cases b <;> exact both_of (by kernel_rfl)
theorem jn4_run (p q r s : List Nat × Tok) : Both (runOf (wF w b c) ρ τ 300 (jnZ [p, q, r, s]) jn4_h (jnK (wF w b c).params ta [p, q, r, s]) (jn4_e (wF w b c)) 10 (.call (.ref 846) ⟨sv [47] ta :: vsO [p, q, r, s], []⟩) []) := by
  cases b <;> exact both_of (by kernel_rfl)
end
theorem vsO_get : ∀ (d : Sts) (p : List Nat × Tok) (r : Sts), (vsO (d ++ p :: r))[d.length]? = some (sv p.1 p.2)
  | [], _, _ => rfl
  | _ :: d, p, r => vsO_get d p r
theorem vsO_len : ∀ l : Sts, (vsO l).length = l.length
  | [] => rfl
  | _ :: l => congrArg (· + 1) (vsO_len l)
noncomputable def okS (s : List Nat) : Prop := s ≠ [] ∧ 47 ∉ s
theorem okS.head {s : List Nat} (h : okS s) : s[0]? ≠ some 47 := fun q => h.2 (List.mem_of_getElem? q)
theorem okS.last {s : List Nat} (h : okS s) : s.getLast? ≠ some 47 := fun q => h.2 (List.mem_of_getLast? q)
theorem last_cons {x : Nat} {u : List Nat} (hu : u ≠ []) : (x :: u).getLast? = u.getLast? := by
  cases u with
  | nil => exact absurd rfl hu
  | cons y u => simp [List.getLast?_cons_cons]
theorem last_app {u s : List Nat} (hs : s ≠ []) : (u ++ s).getLast? = s.getLast? := by
  rw [List.getLast?_append]
  cases h : s.getLast? with
  | none => exact absurd (List.getLast?_eq_none_iff.mp h) hs
  | some v => rfl
section
variable (w : World) (b c : Bool) (E : Nat → Tok) (L it pt : Addr) (ta ts : Tok)
theorem jl_mid (kb : Tok) : ∀ (rest done : Sts) (p : List Nat × Tok) (u : List Nat) (tu : Tok), (∀ x ∈ rest, okS x.1) → u ≠ [] → u.getLast? ≠ some 47 → u.length + (wordO rest).length + 1 ≤ sizeLine →
    Spec (VW (wF w b c)) none 6 (jnC (wF w b c).params L it) (jD L it pt (vsO (done ++ p :: rest)) (jF1 (wF w b c).params E pt ta ts kb (sv p.1 p.2) (sv (47 :: u) tu)) (done.length + 1))
      fun r D => ∃ t, r = .ok .next ∧ D = [(L, jF1 (wF w b c).params E pt ta ts kb (sv (((p :: rest).getLast?.map (·.1)).getD []) (((p :: rest).getLast?.map (·.2)).getD 0)) (sv (47 :: (u ++ wordO rest)) t))]
  | [], done, p, u, tu, _, _, _, _ => by
    have e : done.length + 1 = (vsO (done ++ [p])).length := by rw [vsO_len]; simp
    rw [e]
    exact spec_run (fun ρ τ => je_run w b c ρ τ E L it pt ta ts (vsO (done ++ [p])) kb (sv p.1 p.2) u tu) (Oks.cons (fun _ _ => kTE_ok) .nil) fun ρ τ => ⟨tu, rfl, by rw [show u ++ wordO [] = u from List.append_nil u]; rfl⟩
  | s :: rest, done, p, u, tu, hs, hu, hl, hb => by
    have ok := hs s (.head _)
    have e0 : (vsO (done ++ p :: s :: rest))[done.length + 1]? = some (sv s.1 s.2) := by
      have := vsO_get (done ++ [p]) s rest
      simpa using this
    have hw : (wordO (s :: rest)).length = s.1.length + (wordO rest).length + 1 := by simp [wordO]
    have ih := fun tu => jl_mid kb rest (done ++ [p]) s (u ++ 47 :: s.1) tu (fun x hx => hs x (.tail _ hx)) (by simp) (by rw [last_app (by simp), last_cons ok.1]; exact ok.last) (by simp; omega)
    have eA : done ++ [p] ++ s :: rest = done ++ p :: s :: rest := by simp
    have eL : (done ++ [p]).length = done.length + 1 := by simp
    have eW : ∀ (k : Nat), 47 :: (u ++ 47 :: s.1 ++ wordO rest) = 47 :: (u ++ wordO (s :: rest)) := fun _ => by simp [wordO]
    rw [eA, eL, eW 0] at ih
    have eG : (p :: s :: rest).getLast? = (s :: rest).getLast? := by simp [List.getLast?_cons_cons]
    rw [eG]
    exact spec_run (fun ρ τ => j1_run w b c ρ τ E L it pt ta ts (vsO (done ++ p :: s :: rest)) (done.length + 1) kb (sv p.1 p.2) u tu s.1 s.2) (Oks.cons (fun _ _ => kTN_ok e0) <| .cons (fun _ _ => sw_no ok.head) <|
      .cons (fun _ _ => len_ok (by simp only [List.length_cons]; omega)) <| .cons (fun _ _ => ew_no (by simp) (by rw [last_cons hu]; exact hl)) <| .cons (fun _ _ => add_ok (x := [47]) (by simp) ok.1 (by simp only [List.length_cons, List.length_nil]; omega)) <|
      .cons (fun _ _ => add_ok (x := 47 :: u) (y := 47 :: s.1) (by simp) (by simp) (by simp only [List.length_cons]; omega)) .nil) fun ρ τ => ih _
end
theorem kJl_ok {w : World} {b c : Bool} {E : Nat → Tok} {L it pt : Addr} {ta ts : Tok} {l : Sts} (hl : l ≠ []) (hs : ∀ x ∈ l, okS x.1) (hb : (wordO l).length ≤ sizeLine) : Cut.Ok (VW (wF w b c)) (kJl (wF w b c).params E L it pt ta ts l) := by
  cases l with
  | nil => exact absurd rfl hl
  | cons s rest =>
    have ok := hs s (.head _)
    have hw : (wordO (s :: rest)).length = s.1.length + (wordO rest).length + 1 := by simp [wordO]
    refine spec_run (fun ρ τ => j0_run w b c ρ τ E L it pt ta ts (vsO (s :: rest)) s.1 s.2) (Oks.cons (fun _ _ => kTN_ok rfl) <| .cons (fun _ _ => sw_no ok.head) <| .cons (fun _ _ => add_ok (x := [47]) (by simp) ok.1 (by simp only [List.length_cons, List.length_nil]; omega)) .nil) fun ρ τ => ?_
    refine (jl_mid w b c E L it pt ta ts (τ 0) rest [] s s.1 (τ 6) (fun x hx => hs x (.tail _ hx)) ok.1 ok.last (by omega)).mono (Nat.le_refl _) fun r D x => ?_
    obtain ⟨t, rfl, rfl⟩ := x
    exact ⟨[], [τ 0, ((s :: rest).getLast?.map (·.2)).getD 0, t, 0], rfl, rfl, rfl, rfl⟩
theorem kJn_ok {w : World} {b c : Bool} {ta : Tok} {l : Sts} (hn : l.length = 2 ∨ l.length = 3 ∨ l.length = 4) (hs : ∀ x ∈ l, okS x.1) (hb : (wordO l).length ≤ sizeLine) : Cut.Ok (VW (wF w b c)) (kJn ta l) := by
  match l, hn, hs, hb with
  | [p, q], _, hs, hb => exact spec_run (fun ρ τ => jn2_run w b c ρ τ ta p q) (Oks.cons (fun _ _ => kJl_ok (by simp) hs hb) .nil) fun ρ τ => ⟨[], [τ 12], rfl, rfl, rfl, rfl⟩
  | [p, q, r], _, hs, hb => exact spec_run (fun ρ τ => jn3_run w b c ρ τ ta p q r) (Oks.cons (fun _ _ => kJl_ok (by simp) hs hb) .nil) fun ρ τ => ⟨[], [τ 12], rfl, rfl, rfl, rfl⟩
  | [p, q, r, s], _, hs, hb => exact spec_run (fun ρ τ => jn4_run w b c ρ τ ta p q r s) (Oks.cons (fun _ _ => kJl_ok (by simp) hs hb) .nil) fun ρ τ => ⟨[], [τ 12], rfl, rfl, rfl, rfl⟩
  | [], hn, _, _ => simp at hn
  | [_], hn, _, _ => simp at hn
  | _ :: _ :: _ :: _ :: _ :: _, hn, _, _ => simp at hn
end Mine
end
section
open PySem PySem.W PySem.W.X PyProof.Rows PySem.Builtin PySem.Builtin.Str
set_option Elab.async false
set_option maxRecDepth 100000
set_option linter.unusedVariables false
namespace Mine
section
variable (w : World) (b c : Bool) (ρ : Nat → Addr) (τ : Nat → Tok) (L tc C it acc st : Addr) (gs : List Value) (vs : List Value) (m i : Nat) (a : Addr) (l : Sts) (n : Nat) (k1 : Tok) (v1 : Value)
theorem jc0_2_run (p q : List Nat × Tok) : Both (runOf (wF w b c) ρ τ 200 (jcZ (PW w b c) C it acc st gs (jcC (PW w b c) L tc C it acc) (fun τ => τ 0) 3 vs m i a [p, q] n) jc0_2_h (jcK it acc st gs vs m i a [p, q] n) (jc0_2_e (wF w b c)) 12 (jcC (PW w b c) L tc C it acc) (jcD C it acc st gs (dictN [] 0) vs m i ++ [(a, listN (vsO [p, q]) n)])) := by cases b <;> exact both_of (by kernel_rfl)
theorem jc0_3_run (p q r : List Nat × Tok) : Both (runOf (wF w b c) ρ τ 200 (jcZ (PW w b c) C it acc st gs (jcC (PW w b c) L tc C it acc) (fun τ => τ 0) 3 vs m i a [p, q, r] n) jc0_3_h (jcK it acc st gs vs m i a [p, q, r] n) (jc0_3_e (wF w b c)) 12 (jcC (PW w b c) L tc C it acc) (jcD C it acc st gs (dictN [] 0) vs m i ++ [(a, listN (vsO [p, q, r]) n)])) := by cases b <;> exact both_of (by kernel_rfl)
theorem jc0_4_run (p q r s : List Nat × Tok) : Both (runOf (wF w b c) ρ τ 200 (jcZ (PW w b c) C it acc st gs (jcC (PW w b c) L tc C it acc) (fun τ => τ 0) 3 vs m i a [p, q, r, s] n) jc0_4_h (jcK it acc st gs vs m i a [p, q, r, s] n) (jc0_4_e (wF w b c)) 12 (jcC (PW w b c) L tc C it acc) (jcD C it acc st gs (dictN [] 0) vs m i ++ [(a, listN (vsO [p, q, r, s]) n)])) := by cases b <;> exact both_of (by kernel_rfl)
theorem jc1_2_run (p q : List Nat × Tok) : Both (runOf (wF w b c) ρ τ 200 (jcZ (PW w b c) C it acc st gs (jcC (PW w b c) L tc C it acc) (fun _ => k1) 3 vs m i a [p, q] n) jc1_2_h (jcK it acc st gs vs m i a [p, q] n) (jc1_2_e (wF w b c)) 12 (jcC (PW w b c) L tc C it acc) (jcD C it acc st gs (dictN (wayE (PW w b c) k1 v1) 1) vs m i ++ [(a, listN (vsO [p, q]) n)])) := by cases b <;> exact both_of (by kernel_rfl)
theorem jc1_3_run (p q r : List Nat × Tok) : Both (runOf (wF w b c) ρ τ 200 (jcZ (PW w b c) C it acc st gs (jcC (PW w b c) L tc C it acc) (fun _ => k1) 3 vs m i a [p, q, r] n) jc1_3_h (jcK it acc st gs vs m i a [p, q, r] n) (jc1_3_e (wF w b c)) 12 (jcC (PW w b c) L tc C it acc) (jcD C it acc st gs (dictN (wayE (PW w b c) k1 v1) 1) vs m i ++ [(a, listN (vsO [p, q, r]) n)])) := by cases b <;> exact both_of (by kernel_rfl)
theorem jc1_4_run (p q r s : List Nat × Tok) : Both (runOf (wF w b c) ρ τ 200 (jcZ (PW w b c) C it acc st gs (jcC (PW w b c) L tc C it acc) (fun _ => k1) 3 vs m i a [p, q, r, s] n) jc1_4_h (jcK it acc st gs vs m i a [p, q, r, s] n) (jc1_4_e (wF w b c)) 12 (jcC (PW w b c) L tc C it acc) (jcD C it acc st gs (dictN (wayE (PW w b c) k1 v1) 1) vs m i ++ [(a, listN (vsO [p, q, r, s]) n)])) := by cases b <;> exact both_of (by kernel_rfl)
theorem jce_run (cd : Obj) : Both (runOf (wF w b c) ρ τ 200 (jcY C acc st gs cd vs m) jce_h (jcU it st gs) (jce_e (wF w b c)) 12 (jcC (PW w b c) L tc C it acc) (jcD C it acc st gs cd vs m gs.length)) := by cases b <;> exact both_of (by kernel_rfl)
theorem jd0_run : Both (runOf (wF w b c) ρ τ 200 (jcZ (PW w b c) C it acc st gs (jdC (PW w b c) L tc C it acc) (fun τ => τ 0) 4 vs m i a l n) jd0_h (jdK it acc st gs vs m i a l n) (jd0_e (wF w b c)) 12 (jdC (PW w b c) L tc C it acc) (jcD C it acc st gs (dictN [] 0) vs m i ++ [(a, listN (vsO l) n)])) := by cases b <;> exact both_of (by kernel_rfl)
theorem jd1_run : Both (runOf (wF w b c) ρ τ 200 (jcZ (PW w b c) C it acc st gs (jdC (PW w b c) L tc C it acc) (fun _ => k1) 4 vs m i a l n) jd1_h (jdK it acc st gs vs m i a l n) (jd1_e (wF w b c)) 12 (jdC (PW w b c) L tc C it acc) (jcD C it acc st gs (dictN (wayE (PW w b c) k1 v1) 1) vs m i ++ [(a, listN (vsO l) n)])) := by cases b <;> exact both_of (by kernel_rfl)
theorem jde_run (cd : Obj) : Both (runOf (wF w b c) ρ τ 200 (jcY C acc st gs cd vs m) jde_h (jcU it st gs) (jde_e (wF w b c)) 12 (jdC (PW w b c) L tc C it acc) (jcD C it acc st gs cd vs m gs.length)) := by cases b <;> exact both_of (by kernel_rfl)
end
theorem wordO_join : ∀ l : Sts, l ≠ [] → wordO l = 47 :: joinN 47 (l.map (·.1))
  | [], h => absurd rfl h
  | [p], _ => by simp [wordO, joinN]
  | p :: q :: l, _ => by
    have := wordO_join (q :: l) (by simp)
    show 47 :: (p.1 ++ wordO (q :: l)) = 47 :: (p.1 ++ 47 :: joinN 47 ((q :: l).map (·.1)))
    rw [this]
structure OkW (l : Sts) : Prop where
  n : l.length = 2 ∨ l.length = 3 ∨ l.length = 4
  s : ∀ x ∈ l, okS x.1 ∧ x.1.length ≤ 2
theorem wordO_len : ∀ l : Sts, (∀ x ∈ l, x.1.length ≤ 2) → (wordO l).length ≤ 3 * l.length
  | [], _ => Nat.le_refl _
  | p :: l, h => by
    have := wordO_len l fun x hx => h x (.tail _ hx)
    have := h p (.head _)
    show (47 :: (p.1 ++ wordO l)).length ≤ _
    simp only [List.length_cons, List.length_append]
    omega
theorem OkW.len {l : Sts} (h : OkW l) : (wordO l).length ≤ 12 := by
  have := wordO_len l fun x hx => (h.s x hx).2
  have := h.n
  omega
theorem OkW.ne {l : Sts} (h : OkW l) : l ≠ [] := fun e => by
  have := h.n
  rw [e] at this
  simp at this
section
variable {w : World} {b c : Bool} {L tc C it acc st : Addr} {gs : List Value} {P : Result → Dyn → Prop}
theorem jc_turn {vs : List Value} {m i : Nat} {a : Addr} {l : Sts} {n : Nat} {cd : Obj} (R : Dyn) (hcd : cd = dictN [] 0 ∨ ∃ k v, cd = dictN (wayE (PW w b c) k v) 1) (hl : OkW l) (hv : gs[i]? = some (.ref a)) (hm : vs.length ≤ 1000)
    (next : ∀ k t, Spec (VW (wF w b c)) none 12 (jcC (PW w b c) L tc C it acc) (jcD C it acc st gs (dictN (wayE (PW w b c) k (.ref a)) 1) (vs ++ [sv (wordO l) t]) (m + 1) (i + 1) ++ ((a, listN (vsO l) n) :: R)) P) :
    Spec (VW (wF w b c)) none 12 (jcC (PW w b c) L tc C it acc) (jcD C it acc st gs cd vs m i ++ ((a, listN (vsO l) n) :: R)) P := by
  have ks : Oks (wF w b c) (jcK it acc st gs vs m i a l n) := .cons (fun _ _ => kIN_ok hv) <| .cons (fun _ _ => kPC_ok (by rw [vsO_len']; have := hl.n; exact Nat.le_trans (show l.length ≤ 4 by omega) (by decide))) <| .cons (fun _ _ => kJn_ok hl.n (fun x hx => (hl.s x hx).1) (Nat.le_trans hl.len (by decide))) <| .cons (fun _ _ => kLP_ok (Nat.le_trans hm (by decide))) .nil
  have hn := hl.n
  clear hl
  match l, hn, ks, next with
  | [p, q], _, ks, next =>
    rcases hcd with rfl | ⟨k, v, rfl⟩
    · exact spec_run_fr R (fun ρ τ => jc0_2_run w b c ρ τ L tc C it acc st gs vs m i a n p q) ks fun ρ τ => next _ _
    · exact spec_run_fr R (fun ρ τ => jc1_2_run w b c ρ τ L tc C it acc st gs vs m i a n k v p q) ks fun ρ τ => next _ _
  | [p, q, r], _, ks, next =>
    rcases hcd with rfl | ⟨k, v, rfl⟩
    · exact spec_run_fr R (fun ρ τ => jc0_3_run w b c ρ τ L tc C it acc st gs vs m i a n p q r) ks fun ρ τ => next _ _
    · exact spec_run_fr R (fun ρ τ => jc1_3_run w b c ρ τ L tc C it acc st gs vs m i a n k v p q r) ks fun ρ τ => next _ _
  | [p, q, r, s], _, ks, next =>
    rcases hcd with rfl | ⟨k, v, rfl⟩
    · exact spec_run_fr R (fun ρ τ => jc0_4_run w b c ρ τ L tc C it acc st gs vs m i a n p q r s) ks fun ρ τ => next _ _
    · exact spec_run_fr R (fun ρ τ => jc1_4_run w b c ρ τ L tc C it acc st gs vs m i a n k v p q r s) ks fun ρ τ => next _ _
  | [], h, _, _ => simp at h
  | [_], h, _, _ => simp at h
  | _ :: _ :: _ :: _ :: _ :: _, h, _, _ => simp at h
theorem jd_turn {vs : List Value} {m i : Nat} {a : Addr} {l : Sts} {n : Nat} {cd : Obj} (R : Dyn) (hcd : cd = dictN [] 0 ∨ ∃ k v, cd = dictN (wayE (PW w b c) k v) 1) (hl : OkW l) (hv : gs[i]? = some (.ref a)) (hm : vs.length ≤ 1000)
    (next : ∀ k t, Spec (VW (wF w b c)) none 12 (jdC (PW w b c) L tc C it acc) (jcD C it acc st gs (dictN (wayE (PW w b c) k (.ref a)) 1) (vs ++ [sv (wordO l) t]) (m + 1) (i + 1) ++ ((a, listN (vsO l) n) :: R)) P) :
    Spec (VW (wF w b c)) none 12 (jdC (PW w b c) L tc C it acc) (jcD C it acc st gs cd vs m i ++ ((a, listN (vsO l) n) :: R)) P := by
  have ks : Oks (wF w b c) (jdK it acc st gs vs m i a l n) := .cons (fun _ _ => kIN_ok hv) <| .cons (fun _ _ => kSJ_ok (joined_39 47 l) (by
    have h1 := sum_le (B := 2) (l.map fun p => p.1.length) fun n hn => by
      obtain ⟨p, hp, rfl⟩ := List.mem_map.mp hn
      exact (hl.s p hp).2
    rw [List.length_map] at h1
    have := hl.n
    exact Nat.le_trans (show _ ≤ 100 by simp only [List.length_cons, List.length_nil]; omega) (by decide))) <| .cons (fun _ _ => by
    have e := wordO_join l hl.ne
    have hw := hl.len
    rw [e] at hw ⊢
    simp only [List.length_cons] at hw
    refine add_ok (x := [47]) (by simp) (fun q => ?_) (Nat.le_trans (show _ ≤ 13 by simp only [List.length_cons, List.length_nil]; omega) (by decide))
    match l, hl with
    | [], hl => exact hl.ne rfl
    | [p], hl => exact (hl.s p (.head _)).1.1 q
    | p :: r :: l, hl =>
      have q : p.1 ++ 47 :: joinN 47 ((r :: l).map (·.1)) = [] := q
      simp at q) <| .cons (fun _ _ => kLP_ok (Nat.le_trans hm (by decide))) .nil
  rcases hcd with rfl | ⟨k, v, rfl⟩
  · exact spec_run_fr R (fun ρ τ => jd0_run w b c ρ τ L tc C it acc st gs vs m i a l n) ks fun ρ τ => next _ _
  · exact spec_run_fr R (fun ρ τ => jd1_run w b c ρ τ L tc C it acc st gs vs m i a l n k v) ks fun ρ τ => next _ _
end
theorem kJC_ok {w : World} {b c : Bool} {L tc C it acc st a0 a1 : Addr} {l0 l1 : Sts} {n0 n1 : Nat} (h0 : OkW l0) (h1 : OkW l1) : Cut.Ok (VW (wF w b c)) (kJC (PW w b c) L tc C it acc st a0 a1 l0 l1 n0 n1) := by
  have sp : Spec (VW (wF w b c)) none 12 (jcC (PW w b c) L tc C it acc) (jcD C it acc st [.ref a0, .ref a1] (dictN [] 0) [] 0 0 ++ [(a0, listN (vsO l0) n0), (a1, listN (vsO l1) n1)]) fun r D => ∃ (as : List Addr) (ts : List Tok), as.length = 0 ∧ ts.length = 3 ∧ r = .ok .next ∧
      D = [(acc, listN [sv (wordO l0) (hd0 ts), sv (wordO l1) (hd1 ts)] 2), (C, dictN (wayE (PW w b c) (hd2 ts) (.ref a1)) 1), (st, sqO "list" [.ref a0, .ref a1] 0), (a1, listN (vsO l1) n1), (a0, listN (vsO l0) n0)] := by
    refine jc_turn [(a1, listN (vsO l1) n1)] (.inl rfl) h0 rfl (by decide) fun k t => ?_
    refine .ord (List.Perm.append_left (jcD C it acc st [.ref a0, .ref a1] (dictN (wayE (PW w b c) k (.ref a0)) 1) [sv (wordO l0) t] 1 1) (List.Perm.swap _ _ _)) ?_
    refine jc_turn [(a0, listN (vsO l0) n0)] (.inr ⟨k, _, rfl⟩) h1 rfl (by simp) fun k' t' => ?_
    exact spec_run_fr [(a1, listN (vsO l1) n1), (a0, listN (vsO l0) n0)] (fun ρ τ => jce_run w b c ρ τ L tc C it acc st [.ref a0, .ref a1] [sv (wordO l0) t, sv (wordO l1) t'] 2 _) (Oks.cons (fun _ _ => kIE_ok) .nil) fun ρ τ => ⟨[], [t, t', k'], rfl, rfl, rfl, rfl⟩
  have cs := comp_start (w := w) (b := b) (c := c) (fr := none) (acc := .ref acc) (env := jcE (PW w b c) L tc C) (T := "list_iterator") (it := it) (fs := [.ref st, .int (.ofNat 0) 0]) (k := 11) (R := [(acc, listN [] 0), (C, dictN [] 0), (st, sqO "list" [.ref a0, .ref a1] 0), (a0, listN (vsO l0) n0), (a1, listN (vsO l1) n1)]) (.inl rfl)
    (sp.ord (List.perm_middle (l₁ := [_, _])).symm)
  refine Spec.perm cs (List.perm_append_comm (l₁ := [_, _, _, _, _]) (l₂ := [_])) fun r D h => ?_
  obtain ⟨as, ts, e1, e2, e3, rfl⟩ := h
  refine ⟨[(acc, listN [sv (wordO l0) (hd0 ts), sv (wordO l1) (hd1 ts)] 2), (C, dictN (wayE (PW w b c) (hd2 ts) (.ref a1)) 1), (st, sqO "list" [.ref a0, .ref a1] 0), (a0, listN (vsO l0) n0), (a1, listN (vsO l1) n1)], List.Perm.append_left [_, _, _] (List.Perm.swap _ _ _), as, ts, e1, e2, e3, ?_⟩
  match as, e1 with
  | [], _ => rfl
theorem kJD_ok {w : World} {b c : Bool} {L tc C it acc st a0 a1 : Addr} {l0 l1 : Sts} {n0 n1 : Nat} (h0 : OkW l0) (h1 : OkW l1) : Cut.Ok (VW (wF w b c)) (kJD (PW w b c) L tc C it acc st a0 a1 l0 l1 n0 n1) := by
  have sp : Spec (VW (wF w b c)) none 12 (jdC (PW w b c) L tc C it acc) (jcD C it acc st [.ref a0, .ref a1] (dictN [] 0) [] 0 0 ++ [(a0, listN (vsO l0) n0), (a1, listN (vsO l1) n1)]) fun r D => ∃ (as : List Addr) (ts : List Tok), as.length = 0 ∧ ts.length = 3 ∧ r = .ok .next ∧
      D = [(acc, listN [sv (wordO l0) (hd0 ts), sv (wordO l1) (hd1 ts)] 2), (C, dictN (wayE (PW w b c) (hd2 ts) (.ref a1)) 1), (st, sqO "list" [.ref a0, .ref a1] 0), (a1, listN (vsO l1) n1), (a0, listN (vsO l0) n0)] := by
    refine jd_turn [(a1, listN (vsO l1) n1)] (.inl rfl) h0 rfl (by decide) fun k t => ?_
    refine .ord (List.Perm.append_left (jcD C it acc st [.ref a0, .ref a1] (dictN (wayE (PW w b c) k (.ref a0)) 1) [sv (wordO l0) t] 1 1) (List.Perm.swap _ _ _)) ?_
    refine jd_turn [(a0, listN (vsO l0) n0)] (.inr ⟨k, _, rfl⟩) h1 rfl (by simp) fun k' t' => ?_
    exact spec_run_fr [(a1, listN (vsO l1) n1), (a0, listN (vsO l0) n0)] (fun ρ τ => jde_run w b c ρ τ L tc C it acc st [.ref a0, .ref a1] [sv (wordO l0) t, sv (wordO l1) t'] 2 _) (Oks.cons (fun _ _ => kIE_ok) .nil) fun ρ τ => ⟨[], [t, t', k'], rfl, rfl, rfl, rfl⟩
  have cs := comp_start (w := w) (b := b) (c := c) (fr := none) (acc := .ref acc) (env := jdE (PW w b c) L tc C) (T := "list_iterator") (it := it) (fs := [.ref st, .int (.ofNat 0) 0]) (k := 11) (R := [(acc, listN [] 0), (C, dictN [] 0), (st, sqO "list" [.ref a0, .ref a1] 0), (a0, listN (vsO l0) n0), (a1, listN (vsO l1) n1)]) (.inl rfl)
    (sp.ord (List.perm_middle (l₁ := [_, _])).symm)
  refine Spec.perm cs (List.perm_append_comm (l₁ := [_, _, _, _, _]) (l₂ := [_])) fun r D h => ?_
  obtain ⟨as, ts, e1, e2, e3, rfl⟩ := h
  refine ⟨[(acc, listN [sv (wordO l0) (hd0 ts), sv (wordO l1) (hd1 ts)] 2), (C, dictN (wayE (PW w b c) (hd2 ts) (.ref a1)) 1), (st, sqO "list" [.ref a0, .ref a1] 0), (a0, listN (vsO l0) n0), (a1, listN (vsO l1) n1)], List.Perm.append_left [_, _, _] (List.Perm.swap _ _ _), as, ts, e1, e2, e3, ?_⟩
  match as, e1 with
  | [], _ => rfl
end Mine
end
section
open PySem PySem.W PySem.W.X PyProof.Rows PySem.Builtin PySem.Builtin.Str
set_option Elab.async false
set_option maxRecDepth 100000
set_option linter.unusedVariables false
namespace Mine
section
variable (w : World) (b c : Bool) (ρ : Nat → Addr) (τ : Nat → Tok) (L tc C it acc pc : Addr) (gs vs : List Value) (gn m i d : Nat) (t : Tok) (k1 : Tok) (v1 : Value)
theorem nc0_run : Both (runOf (wF w b c) ρ τ 100 (ncZ0 (PW w b c) L tc C it acc pc gs gn (fun τ => τ 0) vs m i t) nc0_h (ncK0 it pc gs gn i t) (nc0_e (wF w b c)) 11 (ncC (PW w b c) L tc C it acc) (ncD C it acc pc gs gn (dictN [] 0) vs m i)) := by cases b <;> exact both_of (by kernel_rfl)
theorem nc1_run : Both (runOf (wF w b c) ρ τ 100 (ncZ0 (PW w b c) L tc C it acc pc gs gn (fun _ => k1) vs m i t) nc1_h (ncK0 it pc gs gn i t) (nc1_e (wF w b c)) 11 (ncC (PW w b c) L tc C it acc) (ncD C it acc pc gs gn (dictN (nmE (PW w b c) k1 v1) 1) vs m i)) := by cases b <;> exact both_of (by kernel_rfl)
theorem nc2_run : Both (runOf (wF w b c) ρ τ 100 (ncZ1 (PW w b c) L tc C it acc pc gs gn (fun _ => k1) vs m i d t) nc2_h (ncK1 it acc pc gs gn vs m i d t) (nc2_e (wF w b c)) 11 (ncC (PW w b c) L tc C it acc) (ncD C it acc pc gs gn (dictN (nmE (PW w b c) k1 v1) 1) vs m i)) := by cases b <;> exact both_of (by kernel_rfl)
theorem nce_run (cd : Obj) : Both (runOf (wF w b c) ρ τ 100 (ncY C acc cd vs m) nce_h (ncU it pc gs gn) (nce_e (wF w b c)) 11 (ncC (PW w b c) L tc C it acc) (ncD C it acc pc gs gn cd vs m gs.length)) := by cases b <;> exact both_of (by kernel_rfl)
end
theorem vsT_any : ∀ (l : List (List Nat)) (ts : List Tok), ts.length = l.length → ∃ zs : Sts, zs.map (·.1) = l ∧ vsT l ts = vsO zs
  | [], _, _ => ⟨[], rfl, rfl⟩
  | x :: l, [], h => by simp at h
  | x :: l, t :: ts, h => by
    obtain ⟨zs, h1, h2⟩ := vsT_any l ts (by simpa using h)
    exact ⟨(x, t) :: zs, by rw [List.map_cons, h1], by rw [show vsT (x :: l) (t :: ts) = sv x t :: vsT l ts from rfl, h2]; rfl⟩
theorem kSq_ok {w : World} {c : Nat} {t u : Tok} {l : List (List Nat)} (hl : 2 ≤ l.length) (hf : ∀ p ∈ l, c ∉ p) (hx : (joinN c l).length ≤ sizeLine) (hn : l.length ≤ sizeLine) : Cut.Ok (VW w) (kSq c (joinN c l) t u l) := by
  refine (kSpl_ok (w := w) (t := t) (u := u) hl hf hx hn).mono (Nat.le_refl _) fun r D h => ?_
  obtain ⟨as, ts, h1, h2, rfl, rfl⟩ := h
  obtain ⟨zs, h3, h4⟩ := vsT_any l ts h2
  obtain ⟨v, hv⟩ := zipT_any h3
  match as, h1 with
  | [a], _ =>
    refine ⟨[a], [v], rfl, rfl, rfl, ?_⟩
    show [(a, listN (vsT l ts) 0)] = [(a, listN (vsO (zipT l (unl v))) 0)]
    rw [hv, h4]
theorem rwV_vsO : ∀ m : List (Nat × Tok), rwV m = vsO (m.map fun p => ([p.1], p.2))
  | [] => rfl
  | _ :: m => congrArg _ (rwV_vsO m)
theorem kLNr_ok {w : World} {a b : Addr} {l : Sts} {m : List (Nat × Tok)} {n k : Nat} (h : l.map (·.1) = m.map fun p => [p.1]) : Cut.Ok (VW w) (kLNr a b l m n k) := by
  have := kLNe_ok (w := w) (a := a) (b := b) (l := l) (m := m.map fun p => ([p.1], p.2)) (n := n) (k := k) (by rw [h, List.map_map]; rfl)
  unfold kLNe at this
  rw [← rwV_vsO] at this
  exact this
section
variable {w : World} {b c : Bool} {L tc C it acc pc : Addr}
noncomputable def Piece (p : List Nat × Tok) : Prop := p.1 = [] ∨ ∃ d, p.1 = [d]
noncomputable def NcP (P : Params) (C acc : Addr) (ys rest : Sts) (r : Result) (D : Dyn) : Prop := ∃ (m : Nat) (k : Tok) (v : List Nat × Tok), r = .ok .next ∧ D = [(acc, listN (vsO (ys ++ keepN rest)) m), (C, dictN (nmE P k (sv v.1 v.2)) 1)]
theorem nc_mid : ∀ (rest done : Sts) (k : Tok) (v : List Nat × Tok) (ys : Sts) (m : Nat), (∀ p ∈ rest, Piece p) → ys.length + rest.length ≤ 1000 →
    Spec (VW (wF w b c)) none 11 (ncC (PW w b c) L tc C it acc) (ncD C it acc pc (vsO (done ++ rest)) 0 (dictN (nmE (PW w b c) k (sv v.1 v.2)) 1) (vsO ys) m done.length) (NcP (PW w b c) C acc ys rest)
  | [], done, k, v, ys, m, _, _ => by
    rw [List.append_nil, ← vsO_len' done]
    exact spec_run (fun ρ τ => nce_run w b c ρ τ L tc C it acc pc (vsO done) (vsO ys) 0 m _) (Oks.cons (fun _ _ => kIE_ok) .nil) fun ρ τ => ⟨m, k, v, rfl, by rw [show ys ++ keepN [] = ys from List.append_nil ys]; rfl⟩
  | s :: rest, done, k, v, ys, m, hs, hb => by
    have e0 : (vsO (done ++ s :: rest))[done.length]? = some (sv s.1 s.2) := vsO_get' done s rest
    have eA : done ++ [s] ++ rest = done ++ s :: rest := by simp
    have eL : (done ++ [s]).length = done.length + 1 := by simp
    simp only [List.length_cons] at hb
    obtain ⟨x, t⟩ := s
    rcases hs (x, t) (.head _) with e | ⟨d, e⟩
    · have e : x = [] := e
      subst e
      refine spec_run (fun ρ τ => nc1_run w b c ρ τ L tc C it acc pc (vsO (done ++ ([], t) :: rest)) (vsO ys) 0 m done.length t k _) (Oks.cons (fun _ _ => kIN_ok e0) .nil) fun ρ τ => ?_
      have ih := nc_mid rest (done ++ [([], t)]) k ([], t) ys m (fun p hp => hs p (.tail _ hp)) (by omega)
      rw [eA, eL] at ih
      exact ih
    · have e : x = [d] := e
      subst e
      refine spec_run (fun ρ τ => nc2_run w b c ρ τ L tc C it acc pc (vsO (done ++ ([d], t) :: rest)) (vsO ys) 0 m done.length d t k _) (Oks.cons (fun _ _ => kIN_ok e0) <| .cons (fun _ _ => kLP_ok (by rw [vsO_len']; exact Nat.le_trans (show ys.length ≤ 1000 by omega) (by decide))) .nil) fun ρ τ => ?_
      have ih := nc_mid rest (done ++ [([d], t)]) k ([d], t) (ys ++ [([d], t)]) (m + 1) (fun p hp => hs p (.tail _ hp)) (by simp; omega)
      have e3 : vsO (ys ++ [([d], t)]) = vsO ys ++ [sv [d] t] := vsO_app ys _
      rw [eA, eL, e3] at ih
      refine ih.mono (Nat.le_refl _) fun r D h => ?_
      obtain ⟨m', k', v', rfl, rfl⟩ := h
      refine ⟨m', k', v', rfl, ?_⟩
      rw [List.append_assoc]
      rfl
theorem kNc_ok {zs : Sts} (h1 : ∃ t rest, zs = ([], t) :: rest) (hs : ∀ p ∈ zs, Piece p) (hn : zs.length ≤ 900) : Cut.Ok (VW (wF w b c)) (kNc (PW w b c) L tc C it acc pc zs) := by
  obtain ⟨t, rest, rfl⟩ := h1
  simp only [List.length_cons] at hn
  have st : Spec (VW (wF w b c)) none 11 (ncC (PW w b c) L tc C it acc) (ncD C it acc pc (vsO (([], t) :: rest)) 0 (dictN [] 0) [] 0 0) (NcP (PW w b c) C acc [] (([], t) :: rest)) := by
    refine spec_run (fun ρ τ => nc0_run w b c ρ τ L tc C it acc pc (vsO (([], t) :: rest)) [] 0 0 0 t) (Oks.cons (fun _ _ => kIN_ok rfl) .nil) fun ρ τ => ?_
    exact nc_mid (w := w) (b := b) (c := c) (L := L) (tc := tc) (C := C) (it := it) (acc := acc) (pc := pc) rest [([], t)] (τ 0) ([], t) [] 0 (fun p hp => hs p (.tail _ hp)) (by simp; omega)
  have cs := comp_start (w := w) (b := b) (c := c) (fr := none) (acc := .ref acc) (env := ncE (PW w b c) L tc C) (T := "list_iterator") (it := it) (fs := [.ref pc, .int (.ofNat 0) 0]) (k := 10) (R := [(acc, listN [] 0), (C, dictN [] 0), (pc, listN (vsO (([], t) :: rest)) 0)]) (.inl rfl)
    (st.ord (List.perm_middle (l₁ := [_, _])).symm)
  refine (cs.ord (List.perm_middle (l₁ := [_, _]))).mono (Nat.le_refl _) fun r D h => ?_
  obtain ⟨m, k, v, rfl, rfl⟩ := h
  obtain ⟨u, hu⟩ := unl_all v.1
  refine ⟨[], [m, k, u, v.2], rfl, rfl, rfl, ?_⟩
  show _ = [(acc, listN (vsO (keepN (([], t) :: rest))) m), (C, dictN (nmE (PW w b c) k (sv (unl u) v.2)) 1)]
  rw [hu]
  rfl
end
end Mine
end
section
open PySem PySem.W PySem.W.X PyProof.Rows PySem.Builtin PySem.Builtin.Str
set_option Elab.async false
set_option maxRecDepth 100000
set_option linter.unusedVariables false
namespace Mine
section
variable (w : World) (b c : Bool) (ρ : Nat → Addr) (τ : Nat → Tok) (E f : Nat → Tok) (L tc it sc hn st ws xs ms r nm : Addr) (x : List Nat) (tx : Tok) (kv bk : Value) (ns : List Value) (nn i : Nat) (th : Tok) (u : List Nat) (tt : Tok) (k1 : Tok) (v1 : Value)
theorem nqt0_run : Both (runOf (wF w b c) ρ τ 200 (nmZ (PW w b c) E f true L tc it sc hn st ws xs ms r nm x tx kv bk ns nn (fun τ => τ 0) i 113 th (quoS (39 :: u))) nqt0_h (nmKq it nm ns nn i th u tt) (nqt0_e (wF w b c)) 11 (nmC (PW w b c) L tc it) (nmD (PW w b c) E f true L tc it sc hn st ws xs ms r nm x tx kv bk ns nn (39 :: u) tt [] i)) := by cases b <;> exact both_of (by kernel_rfl)
theorem nh97t0_run : Both (runOf (wF w b c) ρ τ 200 (nmZ (PW w b c) E f true L tc it sc hn st ws xs ms r nm x tx kv bk ns nn (fun τ => τ 0) i 97 th (escs (csOf 97) (39 :: u))) nh97t0_h (nmKh (PW w b c) f it hn nm ns nn i 97 th u tt) (nh97t0_e (wF w b c)) 11 (nmC (PW w b c) L tc it) (nmD (PW w b c) E f true L tc it sc hn st ws xs ms r nm x tx kv bk ns nn (39 :: u) tt [] i)) := by cases b <;> exact both_of (by kernel_rfl)
theorem nh99t0_run : Both (runOf (wF w b c) ρ τ 200 (nmZ (PW w b c) E f true L tc it sc hn st ws xs ms r nm x tx kv bk ns nn (fun τ => τ 0) i 99 th (escs (csOf 99) (39 :: u))) nh99t0_h (nmKh (PW w b c) f it hn nm ns nn i 99 th u tt) (nh99t0_e (wF w b c)) 11 (nmC (PW w b c) L tc it) (nmD (PW w b c) E f true L tc it sc hn st ws xs ms r nm x tx kv bk ns nn (39 :: u) tt [] i)) := by cases b <;> exact both_of (by kernel_rfl)
theorem nh100t0_run : Both (runOf (wF w b c) ρ τ 200 (nmZ (PW w b c) E f true L tc it sc hn st ws xs ms r nm x tx kv bk ns nn (fun τ => τ 0) i 100 th (escs (csOf 100) (39 :: u))) nh100t0_h (nmKh (PW w b c) f it hn nm ns nn i 100 th u tt) (nh100t0_e (wF w b c)) 11 (nmC (PW w b c) L tc it) (nmD (PW w b c) E f true L tc it sc hn st ws xs ms r nm x tx kv bk ns nn (39 :: u) tt [] i)) := by cases b <;> exact both_of (by kernel_rfl)
theorem nh101t0_run : Both (runOf (wF w b c) ρ τ 200 (nmZ (PW w b c) E f true L tc it sc hn st ws xs ms r nm x tx kv bk ns nn (fun τ => τ 0) i 101 th (escs (csOf 101) (39 :: u))) nh101t0_h (nmKh (PW w b c) f it hn nm ns nn i 101 th u tt) (nh101t0_e (wF w b c)) 11 (nmC (PW w b c) L tc it) (nmD (PW w b c) E f true L tc it sc hn st ws xs ms r nm x tx kv bk ns nn (39 :: u) tt [] i)) := by cases b <;> exact both_of (by kernel_rfl)
theorem nh104t0_run : Both (runOf (wF w b c) ρ τ 200 (nmZ (PW w b c) E f true L tc it sc hn st ws xs ms r nm x tx kv bk ns nn (fun τ => τ 0) i 104 th (escs (csOf 104) (39 :: u))) nh104t0_h (nmKh (PW w b c) f it hn nm ns nn i 104 th u tt) (nh104t0_e (wF w b c)) 11 (nmC (PW w b c) L tc it) (nmD (PW w b c) E f true L tc it sc hn st ws xs ms r nm x tx kv bk ns nn (39 :: u) tt [] i)) := by cases b <;> exact both_of (by kernel_rfl)
theorem nqt1_run : Both (runOf (wF w b c) ρ τ 200 (nmZ (PW w b c) E f true L tc it sc hn st ws xs ms r nm x tx kv bk ns nn (fun _ => k1) i 113 th (quoS (39 :: u))) nqt1_h (nmKq it nm ns nn i th u tt) (nqt1_e (wF w b c)) 11 (nmC (PW w b c) L tc it) (nmD (PW w b c) E f true L tc it sc hn st ws xs ms r nm x tx kv bk ns nn (39 :: u) tt (nmE (PW w b c) k1 v1) i)) := by cases b <;> exact both_of (by kernel_rfl)
theorem nh97t1_run : Both (runOf (wF w b c) ρ τ 200 (nmZ (PW w b c) E f true L tc it sc hn st ws xs ms r nm x tx kv bk ns nn (fun _ => k1) i 97 th (escs (csOf 97) (39 :: u))) nh97t1_h (nmKh (PW w b c) f it hn nm ns nn i 97 th u tt) (nh97t1_e (wF w b c)) 11 (nmC (PW w b c) L tc it) (nmD (PW w b c) E f true L tc it sc hn st ws xs ms r nm x tx kv bk ns nn (39 :: u) tt (nmE (PW w b c) k1 v1) i)) := by cases b <;> exact both_of (by kernel_rfl)
theorem nh99t1_run : Both (runOf (wF w b c) ρ τ 200 (nmZ (PW w b c) E f true L tc it sc hn st ws xs ms r nm x tx kv bk ns nn (fun _ => k1) i 99 th (escs (csOf 99) (39 :: u))) nh99t1_h (nmKh (PW w b c) f it hn nm ns nn i 99 th u tt) (nh99t1_e (wF w b c)) 11 (nmC (PW w b c) L tc it) (nmD (PW w b c) E f true L tc it sc hn st ws xs ms r nm x tx kv bk ns nn (39 :: u) tt (nmE (PW w b c) k1 v1) i)) := by cases b <;> exact both_of (by kernel_rfl)
theorem nh100t1_run : Both (runOf (wF w b c) ρ τ 200 (nmZ (PW w b c) E f true L tc it sc hn st ws xs ms r nm x tx kv bk ns nn (fun _ => k1) i 100 th (escs (csOf 100) (39 :: u))) nh100t1_h (nmKh (PW w b c) f it hn nm ns nn i 100 th u tt) (nh100t1_e (wF w b c)) 11 (nmC (PW w b c) L tc it) (nmD (PW w b c) E f true L tc it sc hn st ws xs ms r nm x tx kv bk ns nn (39 :: u) tt (nmE (PW w b c) k1 v1) i)) := by cases b <;> exact both_of (by kernel_rfl)
theorem nh101t1_run : Both (runOf (wF w b c) ρ τ 200 (nmZ (PW w b c) E f true L tc it sc hn st ws xs ms r nm x tx kv bk ns nn (fun _ => k1) i 101 th (escs (csOf 101) (39 :: u))) nh101t1_h (nmKh (PW w b c) f it hn nm ns nn i 101 th u tt) (nh101t1_e (wF w b c)) 11 (nmC (PW w b c) L tc it) (nmD (PW w b c) E f true L tc it sc hn st ws xs ms r nm x tx kv bk ns nn (39 :: u) tt (nmE (PW w b c) k1 v1) i)) := by cases b <;> exact both_of (by kernel_rfl)
theorem nh104t1_run : Both (runOf (wF w b c) ρ τ 200 (nmZ (PW w b c) E f true L tc it sc hn st ws xs ms r nm x tx kv bk ns nn (fun _ => k1) i 104 th (escs (csOf 104) (39 :: u))) nh104t1_h (nmKh (PW w b c) f it hn nm ns nn i 104 th u tt) (nh104t1_e (wF w b c)) 11 (nmC (PW w b c) L tc it) (nmD (PW w b c) E f true L tc it sc hn st ws xs ms r nm x tx kv bk ns nn (39 :: u) tt (nmE (PW w b c) k1 v1) i)) := by cases b <;> exact both_of (by kernel_rfl)
theorem nmet_run (txt : List Nat) (h : List DictEntry) : Both (runOf (wF w b c) ρ τ 200 (nmY (PW w b c) E f true L tc sc hn st ws xs ms r nm x tx kv bk txt tt h) nmet_h (nmU it nm ns nn) (nmet_e (wF w b c)) 11 (nmC (PW w b c) L tc it) (nmD (PW w b c) E f true L tc it sc hn st ws xs ms r nm x tx kv bk ns nn txt tt h ns.length)) := by cases b <;> exact both_of (by kernel_rfl)
theorem nqf0_run : Both (runOf (wF w b c) ρ τ 200 (nmZ (PW w b c) E f false L tc it sc hn st ws xs ms r nm x tx kv bk ns nn (fun τ => τ 0) i 113 th (quoS (39 :: u))) nqf0_h (nmKq it nm ns nn i th u tt) (nqf0_e (wF w b c)) 11 (nmC (PW w b c) L tc it) (nmD (PW w b c) E f false L tc it sc hn st ws xs ms r nm x tx kv bk ns nn (39 :: u) tt [] i)) := by cases b <;> exact both_of (by kernel_rfl)
theorem nh97f0_run : Both (runOf (wF w b c) ρ τ 200 (nmZ (PW w b c) E f false L tc it sc hn st ws xs ms r nm x tx kv bk ns nn (fun τ => τ 0) i 97 th (escs (csOf 97) (39 :: u))) nh97f0_h (nmKh (PW w b c) f it hn nm ns nn i 97 th u tt) (nh97f0_e (wF w b c)) 11 (nmC (PW w b c) L tc it) (nmD (PW w b c) E f false L tc it sc hn st ws xs ms r nm x tx kv bk ns nn (39 :: u) tt [] i)) := by cases b <;> exact both_of (by kernel_rfl)
theorem nh99f0_run : Both (runOf (wF w b c) ρ τ 200 (nmZ (PW w b c) E f false L tc it sc hn st ws xs ms r nm x tx kv bk ns nn (fun τ => τ 0) i 99 th (escs (csOf 99) (39 :: u))) nh99f0_h (nmKh (PW w b c) f it hn nm ns nn i 99 th u tt) (nh99f0_e (wF w b c)) 11 (nmC (PW w b c) L tc it) (nmD (PW w b c) E f false L tc it sc hn st ws xs ms r nm x tx kv bk ns nn (39 :: u) tt [] i)) := by cases b <;> exact both_of (by kernel_rfl)
theorem nh100f0_run : Both (runOf (wF w b c) ρ τ 200 (nmZ (PW w b c) E f false L tc it sc hn st ws xs ms r nm x tx kv bk ns nn (fun τ => τ 0) i 100 th (escs (csOf 100) (39 :: u))) nh100f0_h (nmKh (PW w b c) f it hn nm ns nn i 100 th u tt) (nh100f0_e (wF w b c)) 11 (nmC (PW w b c) L tc it) (nmD (PW w b c) E f false L tc it sc hn st ws xs ms r nm x tx kv bk ns nn (39 :: u) tt [] i)) := by cases b <;> exact both_of (by kernel_rfl)
theorem nh101f0_run : Both (runOf (wF w b c) ρ τ 200 (nmZ (PW w b c) E f false L tc it sc hn st ws xs ms r nm x tx kv bk ns nn (fun τ => τ 0) i 101 th (escs (csOf 101) (39 :: u))) nh101f0_h (nmKh (PW w b c) f it hn nm ns nn i 101 th u tt) (nh101f0_e (wF w b c)) 11 (nmC (PW w b c) L tc it) (nmD (PW w b c) E f false L tc it sc hn st ws xs ms r nm x tx kv bk ns nn (39 :: u) tt [] i)) := by cases b <;> exact both_of (by kernel_rfl)
theorem nh104f0_run : Both (runOf (wF w b c) ρ τ 200 (nmZ (PW w b c) E f false L tc it sc hn st ws xs ms r nm x tx kv bk ns nn (fun τ => τ 0) i 104 th (escs (csOf 104) (39 :: u))) nh104f0_h (nmKh (PW w b c) f it hn nm ns nn i 104 th u tt) (nh104f0_e (wF w b c)) 11 (nmC (PW w b c) L tc it) (nmD (PW w b c) E f false L tc it sc hn st ws xs ms r nm x tx kv bk ns nn (39 :: u) tt [] i)) := by cases b <;> exact both_of (by kernel_rfl)
theorem nqf1_run : Both (runOf (wF w b c) ρ τ 200 (nmZ (PW w b c) E f false L tc it sc hn st ws xs ms r nm x tx kv bk ns nn (fun _ => k1) i 113 th (quoS (39 :: u))) nqf1_h (nmKq it nm ns nn i th u tt) (nqf1_e (wF w b c)) 11 (nmC (PW w b c) L tc it) (nmD (PW w b c) E f false L tc it sc hn st ws xs ms r nm x tx kv bk ns nn (39 :: u) tt (nmE (PW w b c) k1 v1) i)) := by cases b <;> exact both_of (by kernel_rfl)
theorem nh97f1_run : Both (runOf (wF w b c) ρ τ 200 (nmZ (PW w b c) E f false L tc it sc hn st ws xs ms r nm x tx kv bk ns nn (fun _ => k1) i 97 th (escs (csOf 97) (39 :: u))) nh97f1_h (nmKh (PW w b c) f it hn nm ns nn i 97 th u tt) (nh97f1_e (wF w b c)) 11 (nmC (PW w b c) L tc it) (nmD (PW w b c) E f false L tc it sc hn st ws xs ms r nm x tx kv bk ns nn (39 :: u) tt (nmE (PW w b c) k1 v1) i)) := by cases b <;> exact both_of (by kernel_rfl)
theorem nh99f1_run : Both (runOf (wF w b c) ρ τ 200 (nmZ (PW w b c) E f false L tc it sc hn st ws xs ms r nm x tx kv bk ns nn (fun _ => k1) i 99 th (escs (csOf 99) (39 :: u))) nh99f1_h (nmKh (PW w b c) f it hn nm ns nn i 99 th u tt) (nh99f1_e (wF w b c)) 11 (nmC (PW w b c) L tc it) (nmD (PW w b c) E f false L tc it sc hn st ws xs ms r nm x tx kv bk ns nn (39 :: u) tt (nmE (PW w b c) k1 v1) i)) := by cases b <;> exact both_of (by kernel_rfl)
theorem nh100f1_run : Both (runOf (wF w b c) ρ τ 200 (nmZ (PW w b c) E f false L tc it sc hn st ws xs ms r nm x tx kv bk ns nn (fun _ => k1) i 100 th (escs (csOf 100) (39 :: u))) nh100f1_h (nmKh (PW w b c) f it hn nm ns nn i 100 th u tt) (nh100f1_e (wF w b c)) 11 (nmC (PW w b c) L tc it) (nmD (PW w b c) E f false L tc it sc hn st ws xs ms r nm x tx kv bk ns nn (39 :: u) tt (nmE (PW w b c) k1 v1) i)) := by cases b <;> exact both_of (by kernel_rfl)
theorem nh101f1_run : Both (runOf (wF w b c) ρ τ 200 (nmZ (PW w b c) E f false L tc it sc hn st ws xs ms r nm x tx kv bk ns nn (fun _ => k1) i 101 th (escs (csOf 101) (39 :: u))) nh101f1_h (nmKh (PW w b c) f it hn nm ns nn i 101 th u tt) (nh101f1_e (wF w b c)) 11 (nmC (PW w b c) L tc it) (nmD (PW w b c) E f false L tc it sc hn st ws xs ms r nm x tx kv bk ns nn (39 :: u) tt (nmE (PW w b c) k1 v1) i)) := by cases b <;> exact both_of (by kernel_rfl)
theorem nh104f1_run : Both (runOf (wF w b c) ρ τ 200 (nmZ (PW w b c) E f false L tc it sc hn st ws xs ms r nm x tx kv bk ns nn (fun _ => k1) i 104 th (escs (csOf 104) (39 :: u))) nh104f1_h (nmKh (PW w b c) f it hn nm ns nn i 104 th u tt) (nh104f1_e (wF w b c)) 11 (nmC (PW w b c) L tc it) (nmD (PW w b c) E f false L tc it sc hn st ws xs ms r nm x tx kv bk ns nn (39 :: u) tt (nmE (PW w b c) k1 v1) i)) := by cases b <;> exact both_of (by kernel_rfl)
theorem nmef_run (txt : List Nat) (h : List DictEntry) : Both (runOf (wF w b c) ρ τ 200 (nmY (PW w b c) E f false L tc sc hn st ws xs ms r nm x tx kv bk txt tt h) nmef_h (nmU it nm ns nn) (nmef_e (wF w b c)) 11 (nmC (PW w b c) L tc it) (nmD (PW w b c) E f false L tc it sc hn st ws xs ms r nm x tx kv bk ns nn txt tt h ns.length)) := by cases b <;> exact both_of (by kernel_rfl)
end
theorem joinN_le (c : Nat) : ∀ l : List (List Nat), (joinN c l).length ≤ (l.map (·.length)).sum + l.length
  | [] => Nat.le_refl _
  | [p] => by simp [joinN]
  | p :: q :: l => by
    have ih := joinN_le c (q :: l)
    show (p ++ c :: joinN c (q :: l)).length ≤ _
    rw [List.map_cons, List.sum_cons, List.length_cons, List.length_append, List.length_cons]
    omega
structure OnWay (j : Nat) (c : List (List (List Nat))) : Prop where
  ok : OkC c
  bd : Bd j c
  hd : ∃ a r, c = [] :: a :: r
theorem OnWay.step {j : Nat} {c : List (List (List Nat))} (h : OnWay j c) (d : Nat) : OnWay (j + 1) (tell1 d c) := by
  refine ⟨h.ok.step, h.bd.step d, ?_⟩
  obtain ⟨a, r, e⟩ := h.hd
  unfold tell1
  split
  · subst e
    exact ⟨_, _, rfl⟩
  · subst e
    exact ⟨_, _, rfl⟩
theorem OnWay.txt {j : Nat} {c : List (List (List Nat))} (h : OnWay j c) (hj : j ≤ 4) : (∃ u, txtOf c = 39 :: u) ∧ (txtOf c).length ≤ 30000 := by
  constructor
  · obtain ⟨a, r, e⟩ := h.hd
    subst e
    exact ⟨_, rfl⟩
  · have h1 := joinN_le 39 (c.map flat)
    have h2 := h.bd.size hj
    rw [List.length_map] at h1
    exact Nat.le_trans h1 h2
theorem onWay0 {x : List Nat} (h : OkX x) : OnWay 0 [[], x.map fun c => [c]] := ⟨okC0 h, bd0 h.1, _, _, rfl⟩
section
variable {w : World} {b c : Bool} {E f : Nat → Tok} {lay : Bool} {L tc it sc hn st ws xs ms r nm : Addr} {x : List Nat} {tx : Tok} {kv bk : Value} {nn : Nat} {P : Result → Dyn → Prop}
theorem nm_turn {ns : List Value} {i d j : Nat} {th tt : Tok} {cc : List (List (List Nat))} {h : List DictEntry} (hd : Hand d) (hv : ns[i]? = some (sv [d] th)) (hw : OnWay j cc) (hj : j ≤ 3) (hh : h = [] ∨ ∃ k v, h = nmE (PW w b c) k v)
    (next : ∀ k t, Spec (VW (wF w b c)) none 11 (nmC (PW w b c) L tc it) (nmD (PW w b c) E f lay L tc it sc hn st ws xs ms r nm x tx kv bk ns nn (txtOf (tell1 d cc)) t (nmE (PW w b c) k (sv [d] th)) (i + 1)) P) :
    Spec (VW (wF w b c)) none 11 (nmC (PW w b c) L tc it) (nmD (PW w b c) E f lay L tc it sc hn st ws xs ms r nm x tx kv bk ns nn (txtOf cc) tt h i) P := by
  obtain ⟨⟨u, hu⟩, hlen⟩ := hw.txt (by omega)
  have hstep := hTx_step hd hw.ok
  have hlen2 := ((hw.step d).txt (by omega)).2
  rw [← hstep] at next hlen2
  rw [hu] at next hlen hlen2 ⊢
  simp only [List.length_cons] at hlen
  rcases hand_split hd with rfl | he
  · have e : hTx 113 (39 :: u) = quoS (39 :: u) := if_pos rfl
    rw [e] at next
    have ks : Oks (wF w b c) (nmKq it nm ns nn i th u tt) := .cons (fun _ _ => kIN_ok hv) <| .cons (fun _ _ => seq_is (by decide)) <| .cons (fun _ _ => kQu_ok (Nat.le_trans (show (u.length + 1) * 6 + 2 ≤ 180002 by omega) (by decide))) .nil
    cases lay with
    | true =>
      rcases hh with rfl | ⟨k, v, rfl⟩
      · exact spec_run (fun ρ τ => nqt0_run w b c ρ τ E f L tc it sc hn st ws xs ms r nm x tx kv bk ns nn i th u tt) ks fun ρ τ => next _ _
      · exact spec_run (fun ρ τ => nqt1_run w b c ρ τ E f L tc it sc hn st ws xs ms r nm x tx kv bk ns nn i th u tt k v) ks fun ρ τ => next _ _
    | false =>
      rcases hh with rfl | ⟨k, v, rfl⟩
      · exact spec_run (fun ρ τ => nqf0_run w b c ρ τ E f L tc it sc hn st ws xs ms r nm x tx kv bk ns nn i th u tt) ks fun ρ τ => next _ _
      · exact spec_run (fun ρ τ => nqf1_run w b c ρ τ E f L tc it sc hn st ws xs ms r nm x tx kv bk ns nn i th u tt k v) ks fun ρ τ => next _ _
  · have nq : d ≠ 113 := by rcases he with rfl | rfl | rfl | rfl | rfl <;> decide
    have e : hTx d (39 :: u) = escs (csOf d) (39 :: u) := if_neg nq
    rw [e] at next hlen2
    have big : (escs (csOf d) (39 :: u)).length * 8 ≤ sizeLine := Nat.le_trans (show _ ≤ 240000 by omega) (by decide)
    have fin : (Cut.Ok (VW (wF w b c)) (kEs (fnOf d) (csOf d) (39 :: u) tt)) → Oks (wF w b c) (nmKh (PW w b c) f it hn nm ns nn i d th u tt) := fun q => .cons (fun _ _ => kIN_ok hv) <| .cons (fun _ _ => seq_is (by simpa using nq)) <| .cons (fun _ _ => kDG_ok (by rcases he with rfl | rfl | rfl | rfl | rfl <;> rfl)) <| .cons (fun _ _ => q) .nil
    rcases he with rfl | rfl | rfl | rfl | rfl
    · have ks := fin (kEsA_ok big)
      cases lay with
      | true =>
        rcases hh with rfl | ⟨k, v, rfl⟩
        · exact spec_run (fun ρ τ => nh97t0_run w b c ρ τ E f L tc it sc hn st ws xs ms r nm x tx kv bk ns nn i th u tt) ks fun ρ τ => next _ _
        · exact spec_run (fun ρ τ => nh97t1_run w b c ρ τ E f L tc it sc hn st ws xs ms r nm x tx kv bk ns nn i th u tt k v) ks fun ρ τ => next _ _
      | false =>
        rcases hh with rfl | ⟨k, v, rfl⟩
        · exact spec_run (fun ρ τ => nh97f0_run w b c ρ τ E f L tc it sc hn st ws xs ms r nm x tx kv bk ns nn i th u tt) ks fun ρ τ => next _ _
        · exact spec_run (fun ρ τ => nh97f1_run w b c ρ τ E f L tc it sc hn st ws xs ms r nm x tx kv bk ns nn i th u tt k v) ks fun ρ τ => next _ _
    · have ks := fin (kEsC_ok big)
      cases lay with
      | true =>
        rcases hh with rfl | ⟨k, v, rfl⟩
        · exact spec_run (fun ρ τ => nh99t0_run w b c ρ τ E f L tc it sc hn st ws xs ms r nm x tx kv bk ns nn i th u tt) ks fun ρ τ => next _ _
        · exact spec_run (fun ρ τ => nh99t1_run w b c ρ τ E f L tc it sc hn st ws xs ms r nm x tx kv bk ns nn i th u tt k v) ks fun ρ τ => next _ _
      | false =>
        rcases hh with rfl | ⟨k, v, rfl⟩
        · exact spec_run (fun ρ τ => nh99f0_run w b c ρ τ E f L tc it sc hn st ws xs ms r nm x tx kv bk ns nn i th u tt) ks fun ρ τ => next _ _
        · exact spec_run (fun ρ τ => nh99f1_run w b c ρ τ E f L tc it sc hn st ws xs ms r nm x tx kv bk ns nn i th u tt k v) ks fun ρ τ => next _ _
    · have ks := fin (kEsD_ok big)
      cases lay with
      | true =>
        rcases hh with rfl | ⟨k, v, rfl⟩
        · exact spec_run (fun ρ τ => nh100t0_run w b c ρ τ E f L tc it sc hn st ws xs ms r nm x tx kv bk ns nn i th u tt) ks fun ρ τ => next _ _
        · exact spec_run (fun ρ τ => nh100t1_run w b c ρ τ E f L tc it sc hn st ws xs ms r nm x tx kv bk ns nn i th u tt k v) ks fun ρ τ => next _ _
      | false =>
        rcases hh with rfl | ⟨k, v, rfl⟩
        · exact spec_run (fun ρ τ => nh100f0_run w b c ρ τ E f L tc it sc hn st ws xs ms r nm x tx kv bk ns nn i th u tt) ks fun ρ τ => next _ _
        · exact spec_run (fun ρ τ => nh100f1_run w b c ρ τ E f L tc it sc hn st ws xs ms r nm x tx kv bk ns nn i th u tt k v) ks fun ρ τ => next _ _
    · have ks := fin (kEsE_ok big)
      cases lay with
      | true =>
        rcases hh with rfl | ⟨k, v, rfl⟩
        · exact spec_run (fun ρ τ => nh101t0_run w b c ρ τ E f L tc it sc hn st ws xs ms r nm x tx kv bk ns nn i th u tt) ks fun ρ τ => next _ _
        · exact spec_run (fun ρ τ => nh101t1_run w b c ρ τ E f L tc it sc hn st ws xs ms r nm x tx kv bk ns nn i th u tt k v) ks fun ρ τ => next _ _
      | false =>
        rcases hh with rfl | ⟨k, v, rfl⟩
        · exact spec_run (fun ρ τ => nh101f0_run w b c ρ τ E f L tc it sc hn st ws xs ms r nm x tx kv bk ns nn i th u tt) ks fun ρ τ => next _ _
        · exact spec_run (fun ρ τ => nh101f1_run w b c ρ τ E f L tc it sc hn st ws xs ms r nm x tx kv bk ns nn i th u tt k v) ks fun ρ τ => next _ _
    · have ks := fin (kEsH_ok big)
      cases lay with
      | true =>
        rcases hh with rfl | ⟨k, v, rfl⟩
        · exact spec_run (fun ρ τ => nh104t0_run w b c ρ τ E f L tc it sc hn st ws xs ms r nm x tx kv bk ns nn i th u tt) ks fun ρ τ => next _ _
        · exact spec_run (fun ρ τ => nh104t1_run w b c ρ τ E f L tc it sc hn st ws xs ms r nm x tx kv bk ns nn i th u tt k v) ks fun ρ τ => next _ _
      | false =>
        rcases hh with rfl | ⟨k, v, rfl⟩
        · exact spec_run (fun ρ τ => nh104f0_run w b c ρ τ E f L tc it sc hn st ws xs ms r nm x tx kv bk ns nn i th u tt) ks fun ρ τ => next _ _
        · exact spec_run (fun ρ τ => nh104f1_run w b c ρ τ E f L tc it sc hn st ws xs ms r nm x tx kv bk ns nn i th u tt k v) ks fun ρ τ => next _ _
noncomputable def NmP (P : Params) (E f : Nat → Tok) (lay : Bool) (L tc sc hn st ws xs ms r nm : Addr) (x : List Nat) (tx : Tok) (kv bk : Value) (cc : List (List (List Nat))) (rest : List Nat) (h : List DictEntry) (R : Result) (D : Dyn) : Prop :=
  ∃ (t : Tok) (h' : List DictEntry), (rest = [] ∧ h' = h ∨ rest ≠ [] ∧ ∃ (k : Tok) (v : List Nat × Tok), h' = nmE P k (sv v.1 v.2)) ∧ R = .ok .next ∧ D = [(L, nmF P E lay L tc sc hn st ws xs ms r nm x tx kv bk (txtOf (tellN rest cc)) t h'), (hn, dlO P (hdDL f) 5)]
theorem nm_all : ∀ (rest : List Nat) (zs done : Sts) (cc : List (List (List Nat))) (tt : Tok) (h : List DictEntry) (j : Nat), zs.map (·.1) = rest.map (fun d => [d]) → (∀ d ∈ rest, Hand d) → OnWay j cc → j + rest.length ≤ 4 → (h = [] ∨ ∃ k v, h = nmE (PW w b c) k v) →
    Spec (VW (wF w b c)) none 11 (nmC (PW w b c) L tc it) (nmD (PW w b c) E f lay L tc it sc hn st ws xs ms r nm x tx kv bk (vsO (done ++ zs)) nn (txtOf cc) tt h done.length) (NmP (PW w b c) E f lay L tc sc hn st ws xs ms r nm x tx kv bk cc rest h)
  | [], [], done, cc, tt, h, j, _, _, _, _, _ => by
    rw [List.append_nil, ← vsO_len' done]
    cases lay with
    | true => exact spec_run (fun ρ τ => nmet_run w b c ρ τ E f L tc it sc hn st ws xs ms r nm x tx kv bk (vsO done) nn tt _ h) (Oks.cons (fun _ _ => kIE_ok) .nil) fun ρ τ => ⟨tt, h, .inl ⟨rfl, rfl⟩, rfl, rfl⟩
    | false => exact spec_run (fun ρ τ => nmef_run w b c ρ τ E f L tc it sc hn st ws xs ms r nm x tx kv bk (vsO done) nn tt _ h) (Oks.cons (fun _ _ => kIE_ok) .nil) fun ρ τ => ⟨tt, h, .inl ⟨rfl, rfl⟩, rfl, rfl⟩
  | [], _ :: _, _, _, _, _, _, e, _, _, _, _ => by simp at e
  | _ :: _, [], _, _, _, _, _, e, _, _, _, _ => by simp at e
  | d :: rest, (y, t) :: zs, done, cc, tt, h, j, e, hs, hw, hj, hh => by
    rw [List.map_cons, List.map_cons] at e
    obtain ⟨e1, e2⟩ := List.cons.inj e
    have e1 : y = [d] := e1
    subst e1
    simp only [List.length_cons] at hj
    refine nm_turn (hs d (.head _)) (vsO_get' done ([d], t) zs) hw (by omega) hh fun k t' => ?_
    have ih := nm_all rest zs (done ++ [([d], t)]) (tell1 d cc) t' (nmE (PW w b c) k (sv [d] t)) (j + 1) e2 (fun x hx => hs x (.tail _ hx)) (hw.step d) (by omega) (.inr ⟨_, _, rfl⟩)
    have eA : done ++ [([d], t)] ++ zs = done ++ ([d], t) :: zs := by simp
    have eL : (done ++ [([d], t)]).length = done.length + 1 := by simp
    rw [eA, eL] at ih
    refine ih.mono (Nat.le_refl _) fun r D q => ?_
    obtain ⟨t'', h', hq, e3, e4⟩ := q
    refine ⟨t'', h', .inr ⟨by simp, ?_⟩, e3, e4⟩
    rcases hq with ⟨_, rfl⟩ | ⟨_, q⟩
    · exact ⟨k, ([d], t), rfl⟩
    · exact q
theorem kNm_ok {ns : Sts} {row : List Nat} {tt : Tok} {h : List DictEntry} {ne : Bool} (hne : ne = !row.isEmpty) (hns : ns.map (·.1) = row.map fun d => [d]) (hr : ∀ d ∈ row, Hand d) (hx : OkX x) (hl4 : row.length ≤ 4) (hh : h = [] ∨ ∃ k v, h = nmE (PW w b c) k v) :
    Cut.Ok (VW (wF w b c)) (kNm (PW w b c) E f lay L tc it sc hn st ws xs ms r nm x tx kv bk ns nn (39 :: x) tt h row ne) := by
  have a := nm_all (w := w) (b := b) (c := c) (E := E) (f := f) (lay := lay) (L := L) (tc := tc) (it := it) (sc := sc) (hn := hn) (st := st) (ws := ws) (xs := xs) (ms := ms) (r := r) (nm := nm) (x := x) (tx := tx) (kv := kv) (bk := bk) (nn := nn) row ns [] [[], x.map fun c => [c]] tt h 0 hns hr (onWay0 hx) (by omega) hh
  rw [txt0] at a
  refine a.mono (Nat.le_refl _) fun R D q => ?_
  obtain ⟨t, h', hq, rfl, rfl⟩ := q
  have et : txtOf (tellN row [[], x.map fun c => [c]]) = hTxN row (39 :: x) := (told_law hr hx).symm
  rw [et]
  cases row with
  | nil =>
    subst hne
    rcases hq with ⟨_, rfl⟩ | ⟨q, _⟩
    · exact ⟨[], [t, 0, 0, 0], rfl, rfl, rfl, rfl⟩
    · exact absurd rfl q
  | cons d row =>
    subst hne
    rcases hq with ⟨q, _⟩ | ⟨_, k, v, rfl⟩
    · cases q
    · obtain ⟨u, hu⟩ := unl_all v.1
      refine ⟨[], [t, k, u, v.2], rfl, rfl, rfl, ?_⟩
      show _ = [(L, nmF (PW w b c) E lay L tc sc hn st ws xs ms r nm x tx kv bk (hTxN (d :: row) (39 :: x)) t (nmE (PW w b c) k (sv (unl u) v.2))), (hn, dlO (PW w b c) (hdDL f) 5)]
      rw [hu]
end
end Mine
end
section
open PySem PySem.W PySem.W.X PyProof.Rows
set_option Elab.async false
set_option maxRecDepth 100000
namespace Mine
noncomputable def lr_h : List Nat := [0, 0, 1, 0, 2, 1, 2, 3, 3, 0, 3, 0, 1, 0, 1, 0, 1, 0, 1, 1, 4, 1, 0, 3, 2, 3, 0, 1, 0, 3, 0, 1, 0, 3, 3, 3, 1, 3, 0, 3, 0, 1, 3, 1, 5, 4, 0, 3, 0, 3, 0, 3, 3, 6, 3, 2, 5, 4, 5, 0, 1, 0, 5, 0, 1, 0, 5, 5, 2, 1, 2, 0, 2, 0, 1, 2, 1, 7, 6, 0, 5, 0, 5, 0, 5, 5, 8, 5, 4, 1, 0, 9, 2, 9, 2]
noncomputable def lr_e (w : World) : List (Of Ent) := [fun ρ _ => entOf (o926 w.params) 926 (ρ 0)]
noncomputable def lrL_h : List Nat := [0, 0, 1, 0, 2, 1, 2, 3, 3, 0, 3, 0, 1, 0, 1, 0, 1, 0, 1, 1, 4, 1, 0, 3, 2, 3, 0, 1, 0, 3, 0, 1, 0, 3, 3, 3, 1, 3, 0, 3, 0, 1, 3, 1, 5, 4, 0, 3, 0, 3, 0, 3, 3, 6, 3, 2, 5, 4, 5, 0, 1, 0, 5, 0, 1, 0, 5, 5, 2, 1, 2, 0, 2, 0, 1, 2, 1, 7, 6, 0, 5, 0, 5, 0, 5, 5, 8, 5, 4, 7, 6, 7, 0, 1, 0, 7, 0, 1, 0, 7, 7, 2, 1, 2, 0, 2, 0, 1, 2, 1, 9, 8, 0, 7, 0, 7, 0, 7, 7, 10, 7, 6, 1, 0, 11, 2, 11, 2]
noncomputable def lrL_e (w : World) : List (Of Ent) := [fun ρ _ => entOf (o926 w.params) 926 (ρ 0)]
noncomputable def lrU_h : List Nat := [0, 0, 1, 0, 2, 1, 2, 3, 3, 0, 3, 0, 1, 0, 1, 0, 1, 0, 1, 1, 4, 1, 0, 3, 2, 3, 0, 1, 0, 3, 0, 1, 0, 3, 3, 3, 1, 3, 0, 3, 0, 1, 3, 1, 5, 4, 0, 3, 0, 3, 0, 3, 3, 6, 3, 2, 5, 4, 5, 0, 1, 0, 5, 0, 1, 0, 5, 5, 2, 1, 2, 0, 2, 0, 1, 2, 1, 7, 6, 0, 5, 0, 5, 0, 5, 5, 8, 5, 4, 7, 6, 7, 0, 0, 7, 0, 0, 2, 2, 2, 0, 2, 0, 1, 1, 1, 1, 1, 2, 9, 8, 0, 7, 0, 7, 0, 7, 7, 10, 7, 6, 1, 0, 11, 2, 11, 2]
noncomputable def lrU_e (w : World) : List (Of Ent) := [fun ρ _ => entOf (o926 w.params) 926 (ρ 0)]
noncomputable def lrD_h : List Nat := [0, 0, 1, 0, 2, 1, 2, 3, 3, 0, 3, 0, 1, 0, 1, 0, 1, 0, 1, 1, 4, 1, 0, 3, 2, 3, 0, 1, 0, 3, 0, 1, 0, 3, 3, 3, 1, 3, 0, 3, 0, 1, 3, 1, 5, 4, 0, 3, 0, 3, 0, 3, 3, 6, 3, 2, 5, 4, 5, 0, 1, 0, 5, 0, 1, 0, 5, 5, 2, 1, 2, 0, 2, 0, 1, 2, 1, 7, 6, 0, 5, 0, 5, 0, 5, 5, 8, 5, 4, 7, 6, 7, 0, 0, 7, 0, 0, 0, 5, 0, 5, 0, 5, 5, 8, 5, 4, 1, 0, 9, 2, 9, 2]
noncomputable def lrD_e (w : World) : List (Of Ent) := [fun ρ _ => entOf (o926 w.params) 926 (ρ 0)]
noncomputable def lrLL_h : List Nat := [0, 0, 1, 0, 2, 1, 2, 3, 3, 0, 3, 0, 1, 0, 1, 0, 1, 0, 1, 1, 4, 1, 0, 3, 2, 3, 0, 1, 0, 3, 0, 1, 0, 3, 3, 3, 1, 3, 0, 3, 0, 1, 3, 1, 5, 4, 0, 3, 0, 3, 0, 3, 3, 6, 3, 2, 5, 4, 5, 0, 1, 0, 5, 0, 1, 0, 5, 5, 2, 1, 2, 0, 2, 0, 1, 2, 1, 7, 6, 0, 5, 0, 5, 0, 5, 5, 8, 5, 4, 7, 6, 7, 0, 1, 0, 7, 0, 1, 0, 7, 7, 2, 1, 2, 0, 2, 0, 1, 2, 1, 9, 8, 0, 7, 0, 7, 0, 7, 7, 10, 7, 6, 9, 8, 9, 0, 1, 0, 9, 0, 1, 0, 9, 9, 2, 1, 2, 0, 2, 0, 1, 2, 1, 11, 10, 0, 9, 0, 9, 0, 9, 9, 12, 9, 8, 1, 0, 13, 2, 13, 2]
noncomputable def lrLL_e (w : World) : List (Of Ent) := [fun ρ _ => entOf (o926 w.params) 926 (ρ 0)]
noncomputable def lrLU_h : List Nat := [0, 0, 1, 0, 2, 1, 2, 3, 3, 0, 3, 0, 1, 0, 1, 0, 1, 0, 1, 1, 4, 1, 0, 3, 2, 3, 0, 1, 0, 3, 0, 1, 0, 3, 3, 3, 1, 3, 0, 3, 0, 1, 3, 1, 5, 4, 0, 3, 0, 3, 0, 3, 3, 6, 3, 2, 5, 4, 5, 0, 1, 0, 5, 0, 1, 0, 5, 5, 2, 1, 2, 0, 2, 0, 1, 2, 1, 7, 6, 0, 5, 0, 5, 0, 5, 5, 8, 5, 4, 7, 6, 7, 0, 1, 0, 7, 0, 1, 0, 7, 7, 2, 1, 2, 0, 2, 0, 1, 2, 1, 9, 8, 0, 7, 0, 7, 0, 7, 7, 10, 7, 6, 9, 8, 9, 0, 0, 9, 0, 0, 2, 2, 2, 0, 2, 0, 1, 1, 1, 1, 1, 2, 11, 10, 0, 9, 0, 9, 0, 9, 9, 12, 9, 8, 1, 0, 13, 2, 13, 2]
noncomputable def lrLU_e (w : World) : List (Of Ent) := [fun ρ _ => entOf (o926 w.params) 926 (ρ 0)]
noncomputable def lrLD_h : List Nat := [0, 0, 1, 0, 2, 1, 2, 3, 3, 0, 3, 0, 1, 0, 1, 0, 1, 0, 1, 1, 4, 1, 0, 3, 2, 3, 0, 1, 0, 3, 0, 1, 0, 3, 3, 3, 1, 3, 0, 3, 0, 1, 3, 1, 5, 4, 0, 3, 0, 3, 0, 3, 3, 6, 3, 2, 5, 4, 5, 0, 1, 0, 5, 0, 1, 0, 5, 5, 2, 1, 2, 0, 2, 0, 1, 2, 1, 7, 6, 0, 5, 0, 5, 0, 5, 5, 8, 5, 4, 7, 6, 7, 0, 1, 0, 7, 0, 1, 0, 7, 7, 2, 1, 2, 0, 2, 0, 1, 2, 1, 9, 8, 0, 7, 0, 7, 0, 7, 7, 10, 7, 6, 9, 8, 9, 0, 0, 9, 0, 0, 0, 7, 0, 7, 0, 7, 7, 10, 7, 6, 1, 0, 11, 2, 11, 2]
noncomputable def lrLD_e (w : World) : List (Of Ent) := [fun ρ _ => entOf (o926 w.params) 926 (ρ 0)]
noncomputable def lrUL_h : List Nat := [0, 0, 1, 0, 2, 1, 2, 3, 3, 0, 3, 0, 1, 0, 1, 0, 1, 0, 1, 1, 4, 1, 0, 3, 2, 3, 0, 1, 0, 3, 0, 1, 0, 3, 3, 3, 1, 3, 0, 3, 0, 1, 3, 1, 5, 4, 0, 3, 0, 3, 0, 3, 3, 6, 3, 2, 5, 4, 5, 0, 1, 0, 5, 0, 1, 0, 5, 5, 2, 1, 2, 0, 2, 0, 1, 2, 1, 7, 6, 0, 5, 0, 5, 0, 5, 5, 8, 5, 4, 7, 6, 7, 0, 0, 7, 0, 0, 2, 2, 2, 0, 2, 0, 1, 1, 1, 1, 1, 2, 9, 8, 0, 7, 0, 7, 0, 7, 7, 10, 7, 6, 9, 8, 9, 0, 1, 0, 9, 0, 1, 0, 9, 9, 2, 1, 2, 0, 2, 0, 1, 2, 1, 11, 10, 0, 9, 0, 9, 0, 9, 9, 12, 9, 8, 1, 0, 13, 2, 13, 2]
noncomputable def lrUL_e (w : World) : List (Of Ent) := [fun ρ _ => entOf (o926 w.params) 926 (ρ 0)]
noncomputable def lrUU_h : List Nat := [0, 0, 1, 0, 2, 1, 2, 3, 3, 0, 3, 0, 1, 0, 1, 0, 1, 0, 1, 1, 4, 1, 0, 3, 2, 3, 0, 1, 0, 3, 0, 1, 0, 3, 3, 3, 1, 3, 0, 3, 0, 1, 3, 1, 5, 4, 0, 3, 0, 3, 0, 3, 3, 6, 3, 2, 5, 4, 5, 0, 1, 0, 5, 0, 1, 0, 5, 5, 2, 1, 2, 0, 2, 0, 1, 2, 1, 7, 6, 0, 5, 0, 5, 0, 5, 5, 8, 5, 4, 7, 6, 7, 0, 0, 7, 0, 0, 2, 2, 2, 0, 2, 0, 1, 1, 1, 1, 1, 2, 9, 8, 0, 7, 0, 7, 0, 7, 7, 10, 7, 6, 9, 8, 9, 0, 0, 9, 0, 0, 2, 2, 2, 0, 2, 0, 1, 1, 1, 1, 1, 2, 11, 10, 0, 9, 0, 9, 0, 9, 9, 12, 9, 8, 1, 0, 13, 2, 13, 2]
noncomputable def lrUU_e (w : World) : List (Of Ent) := [fun ρ _ => entOf (o926 w.params) 926 (ρ 0)]
noncomputable def lrUD_h : List Nat := [0, 0, 1, 0, 2, 1, 2, 3, 3, 0, 3, 0, 1, 0, 1, 0, 1, 0, 1, 1, 4, 1, 0, 3, 2, 3, 0, 1, 0, 3, 0, 1, 0, 3, 3, 3, 1, 3, 0, 3, 0, 1, 3, 1, 5, 4, 0, 3, 0, 3, 0, 3, 3, 6, 3, 2, 5, 4, 5, 0, 1, 0, 5, 0, 1, 0, 5, 5, 2, 1, 2, 0, 2, 0, 1, 2, 1, 7, 6, 0, 5, 0, 5, 0, 5, 5, 8, 5, 4, 7, 6, 7, 0, 0, 7, 0, 0, 2, 2, 2, 0, 2, 0, 1, 1, 1, 1, 1, 2, 9, 8, 0, 7, 0, 7, 0, 7, 7, 10, 7, 6, 9, 8, 9, 0, 0, 9, 0, 0, 0, 7, 0, 7, 0, 7, 7, 10, 7, 6, 1, 0, 11, 2, 11, 2]
noncomputable def lrUD_e (w : World) : List (Of Ent) := [fun ρ _ => entOf (o926 w.params) 926 (ρ 0)]
noncomputable def lrDL_h : List Nat := [0, 0, 1, 0, 2, 1, 2, 3, 3, 0, 3, 0, 1, 0, 1, 0, 1, 0, 1, 1, 4, 1, 0, 3, 2, 3, 0, 1, 0, 3, 0, 1, 0, 3, 3, 3, 1, 3, 0, 3, 0, 1, 3, 1, 5, 4, 0, 3, 0, 3, 0, 3, 3, 6, 3, 2, 5, 4, 5, 0, 1, 0, 5, 0, 1, 0, 5, 5, 2, 1, 2, 0, 2, 0, 1, 2, 1, 7, 6, 0, 5, 0, 5, 0, 5, 5, 8, 5, 4, 7, 6, 7, 0, 0, 7, 0, 0, 0, 5, 0, 5, 0, 5, 5, 8, 5, 4, 7, 6, 7, 0, 1, 0, 7, 0, 1, 0, 7, 7, 2, 1, 2, 0, 2, 0, 1, 2, 1, 9, 8, 0, 7, 0, 7, 0, 7, 7, 10, 7, 6, 1, 0, 11, 2, 11, 2]
noncomputable def lrDL_e (w : World) : List (Of Ent) := [fun ρ _ => entOf (o926 w.params) 926 (ρ 0)]
noncomputable def lrDU_h : List Nat := [0, 0, 1, 0, 2, 1, 2, 3, 3, 0, 3, 0, 1, 0, 1, 0, 1, 0, 1, 1, 4, 1, 0, 3, 2, 3, 0, 1, 0, 3, 0, 1, 0, 3, 3, 3, 1, 3, 0, 3, 0, 1, 3, 1, 5, 4, 0, 3, 0, 3, 0, 3, 3, 6, 3, 2, 5, 4, 5, 0, 1, 0, 5, 0, 1, 0, 5, 5, 2, 1, 2, 0, 2, 0, 1, 2, 1, 7, 6, 0, 5, 0, 5, 0, 5, 5, 8, 5, 4, 7, 6, 7, 0, 0, 7, 0, 0, 0, 5, 0, 5, 0, 5, 5, 8, 5, 4, 7, 6, 7, 0, 0, 7, 0, 0, 2, 2, 2, 0, 2, 0, 1, 1, 1, 1, 1, 2, 9, 8, 0, 7, 0, 7, 0, 7, 7, 10, 7, 6, 1, 0, 11, 2, 11, 2]
noncomputable def lrDU_e (w : World) : List (Of Ent) := [fun ρ _ => entOf (o926 w.params) 926 (ρ 0)]
noncomputable def lrDD_h : List Nat := [0, 0, 1, 0, 2, 1, 2, 3, 3, 0, 3, 0, 1, 0, 1, 0, 1, 0, 1, 1, 4, 1, 0, 3, 2, 3, 0, 1, 0, 3, 0, 1, 0, 3, 3, 3, 1, 3, 0, 3, 0, 1, 3, 1, 5, 4, 0, 3, 0, 3, 0, 3, 3, 6, 3, 2, 5, 4, 5, 0, 1, 0, 5, 0, 1, 0, 5, 5, 2, 1, 2, 0, 2, 0, 1, 2, 1, 7, 6, 0, 5, 0, 5, 0, 5, 5, 8, 5, 4, 7, 6, 7, 0, 0, 7, 0, 0, 0, 5, 0, 5, 0, 5, 5, 8, 5, 4, 7, 6, 7, 0, 0, 7, 0, 0, 0, 5, 0, 5, 0, 5, 5, 8, 5, 4, 1, 0, 9, 2, 9, 2]
noncomputable def lrDD_e (w : World) : List (Of Ent) := [fun ρ _ => entOf (o926 w.params) 926 (ρ 0)]
end Mine
end
section
open PySem PySem.W PySem.W.X PyProof.Rows
set_option Elab.async false
set_option maxRecDepth 100000
namespace Mine
noncomputable def np_h : List Nat := [0, 0, 1, 0, 0, 1, 0, 0, 0, 0, 1, 0, 0, 0, 1, 0, 0, 1, 0, 0, 0, 1, 0, 0, 0, 0, 0, 0, 0, 1, 1, 1, 1, 0, 0, 2, 3, 2, 0, 0, 3, 0, 0, 0, 0, 0, 0, 0, 0, 0, 0, 3, 2, 3, 2, 3, 2, 3, 0, 0, 0, 0, 3, 0, 0, 0, 0, 1, 0, 0, 1, 0, 0, 0, 0, 1, 0, 0, 0, 1, 0, 0, 1, 0, 0, 0, 1, 0, 0, 0, 0, 0, 0, 0, 1, 1, 1, 1, 0, 0, 2, 3, 2, 0, 0, 3, 0, 0, 0, 0, 0, 0, 0, 0, 0, 0, 3, 2, 3, 2, 3, 0, 0, 1, 1, 1, 1, 4, 0, 0, 4, 0, 0, 1, 1, 1, 1, 5, 0, 1, 0, 5, 5, 5, 0, 0, 1, 1, 1, 1, 1, 1, 1, 0, 1, 0, 1, 1, 0, 1, 0, 1, 1, 2, 1, 0, 1, 0, 1, 0, 1, 1, 2, 1, 0, 1, 0, 1, 0, 1, 1, 2, 1, 0, 1, 0, 1, 0, 1, 1, 2, 1, 0, 1, 13, 12, 13, 12, 13, 12, 13, 13, 0, 1, 0, 14, 13, 15, 14, 15, 2, 2, 0, 2, 0, 1, 0, 1, 0, 1, 0, 1, 1, 3, 1, 0, 16, 15, 16, 0, 0, 0, 16, 16, 0, 1, 0, 16, 16, 0, 1, 0, 16, 2, 2, 2, 2, 16, 0, 2, 0, 2, 1, 2, 0, 1, 0, 1, 0, 1, 1, 3, 1, 0, 16, 15, 16, 0, 0, 0, 16, 16, 0, 1, 0, 16, 16, 0, 1, 0, 16, 2, 2, 2, 2, 16, 0, 2, 0, 2, 1, 2, 0, 1, 0, 1, 0, 1, 1, 3, 1, 0, 1, 0, 18, 18, 17, 18, 18, 18, 0, 0, 4, 4, 0, 0, 18, 17, 18, 0, 0, 0, 0]
noncomputable def np_e (w : World) : List (Of Ent) := [fun ρ _ => entOf (o860 w.params) 860 (ρ 0), fun ρ _ => entOf (o825 w.params) 825 (ρ 1), fun ρ _ => entOf (o853 w.params) 853 (ρ 3), fun ρ _ => entOf (o825 w.params) 825 (ρ 4)]
noncomputable def npL_h : List Nat := [0, 0, 1, 0, 0, 1, 0, 0, 0, 0, 1, 0, 0, 0, 1, 0, 0, 1, 0, 0, 0, 1, 0, 0, 0, 0, 0, 0, 0, 1, 1, 1, 1, 0, 0, 2, 3, 2, 0, 0, 3, 0, 0, 0, 0, 0, 0, 0, 0, 0, 0, 3, 2, 3, 2, 3, 2, 3, 0, 0, 0, 0, 3, 0, 0, 0, 0, 1, 0, 0, 1, 0, 0, 0, 0, 1, 0, 0, 0, 1, 0, 0, 1, 0, 0, 0, 1, 0, 0, 0, 0, 0, 0, 0, 1, 1, 1, 1, 0, 0, 2, 3, 2, 0, 0, 3, 0, 0, 0, 0, 0, 0, 0, 0, 0, 0, 3, 2, 3, 2, 3, 0, 0, 1, 1, 1, 1, 4, 0, 0, 4, 0, 0, 1, 1, 1, 1, 5, 0, 1, 0, 5, 5, 5, 0, 0, 1, 1, 1, 1, 1, 1, 1, 0, 1, 0, 1, 1, 0, 1, 0, 1, 1, 2, 1, 0, 1, 0, 1, 0, 1, 1, 2, 1, 0, 1, 0, 1, 0, 1, 1, 2, 1, 0, 1, 0, 1, 0, 1, 1, 2, 1, 0, 1, 13, 12, 13, 12, 13, 12, 13, 13, 0, 1, 0, 14, 13, 15, 14, 15, 2, 2, 0, 2, 0, 1, 0, 1, 0, 1, 0, 1, 1, 3, 1, 0, 16, 15, 16, 0, 0, 0, 16, 16, 0, 1, 0, 16, 16, 0, 1, 0, 16, 2, 2, 2, 2, 16, 0, 2, 0, 2, 1, 2, 0, 1, 0, 1, 0, 1, 1, 3, 1, 0, 16, 15, 16, 0, 0, 0, 16, 16, 0, 1, 0, 16, 16, 0, 1, 0, 16, 2, 2, 2, 2, 16, 0, 2, 0, 2, 1, 2, 0, 1, 0, 1, 0, 1, 1, 3, 1, 0, 16, 15, 16, 0, 0, 0, 16, 16, 0, 1, 0, 16, 16, 0, 1, 0, 16, 2, 2, 2, 2, 16, 0, 2, 0, 2, 1, 2, 0, 1, 0, 1, 0, 1, 1, 3, 1, 0, 1, 0, 18, 18, 17, 18, 18, 18, 0, 0, 4, 4, 0, 0, 18, 17, 18, 0, 0, 0, 0]
noncomputable def npL_e (w : World) : List (Of Ent) := [fun ρ _ => entOf (o860 w.params) 860 (ρ 0), fun ρ _ => entOf (o825 w.params) 825 (ρ 1), fun ρ _ => entOf (o853 w.params) 853 (ρ 3), fun ρ _ => entOf (o825 w.params) 825 (ρ 4)]
noncomputable def npU_h : List Nat := [0, 0, 1, 0, 0, 1, 0, 0, 0, 0, 1, 0, 0, 0, 1, 0, 0, 1, 0, 0, 0, 1, 0, 0, 0, 0, 0, 0, 0, 1, 1, 1, 1, 0, 0, 2, 3, 2, 0, 0, 3, 0, 0, 0, 0, 0, 0, 0, 0, 0, 0, 3, 2, 3, 2, 3, 2, 3, 0, 0, 0, 0, 3, 0, 0, 0, 0, 1, 0, 0, 1, 0, 0, 0, 0, 1, 0, 0, 0, 1, 0, 0, 1, 0, 0, 0, 1, 0, 0, 0, 0, 0, 0, 0, 1, 1, 1, 1, 0, 0, 2, 3, 2, 0, 0, 3, 0, 0, 0, 0, 0, 0, 0, 0, 0, 0, 3, 2, 3, 2, 3, 0, 0, 1, 1, 1, 1, 4, 0, 0, 4, 0, 0, 1, 1, 1, 1, 5, 0, 1, 0, 5, 5, 5, 0, 0, 1, 1, 1, 1, 1, 1, 1, 0, 1, 0, 1, 1, 0, 1, 0, 1, 1, 2, 1, 0, 1, 0, 1, 0, 1, 1, 2, 1, 0, 1, 0, 1, 0, 1, 1, 2, 1, 0, 1, 0, 1, 0, 1, 1, 2, 1, 0, 1, 13, 12, 13, 12, 13, 12, 13, 13, 0, 1, 0, 14, 13, 15, 14, 15, 2, 2, 0, 2, 0, 1, 0, 1, 0, 1, 0, 1, 1, 3, 1, 0, 16, 15, 16, 0, 0, 0, 16, 16, 0, 1, 0, 16, 16, 0, 1, 0, 16, 2, 2, 2, 2, 16, 0, 2, 0, 2, 1, 2, 0, 1, 0, 1, 0, 1, 1, 3, 1, 0, 16, 15, 16, 0, 0, 0, 16, 16, 0, 1, 0, 16, 16, 0, 1, 0, 16, 2, 2, 2, 2, 16, 0, 2, 0, 2, 1, 2, 0, 1, 0, 1, 0, 1, 1, 3, 1, 0, 16, 15, 16, 0, 0, 0, 16, 16, 0, 0, 16, 16, 0, 0, 16, 0, 0, 0, 16, 2, 2, 0, 2, 0, 2, 0, 2, 16, 0, 0, 2, 2, 2, 0, 2, 0, 2, 16, 0, 1, 0, 16, 2, 2, 0, 2, 0, 2, 0, 2, 16, 2, 2, 2, 2, 0, 2, 0, 2, 2, 1, 2, 0, 1, 0, 1, 0, 1, 1, 3, 1, 0, 1, 0, 18, 18, 17, 18, 18, 18, 0, 0, 4, 4, 0, 0, 18, 17, 18, 0, 0, 0, 0]
noncomputable def npU_e (w : World) : List (Of Ent) := [fun ρ _ => entOf (o860 w.params) 860 (ρ 0), fun ρ _ => entOf (o825 w.params) 825 (ρ 1), fun ρ _ => entOf (o853 w.params) 853 (ρ 3), fun ρ _ => entOf (o825 w.params) 825 (ρ 4)]
noncomputable def npD_h : List Nat := [0, 0, 1, 0, 0, 1, 0, 0, 0, 0, 1, 0, 0, 0, 1, 0, 0, 1, 0, 0, 0, 1, 0, 0, 0, 0, 0, 0, 0, 1, 1, 1, 1, 0, 0, 2, 3, 2, 0, 0, 3, 0, 0, 0, 0, 0, 0, 0, 0, 0, 0, 3, 2, 3, 2, 3, 2, 3, 0, 0, 0, 0, 3, 0, 0, 0, 0, 1, 0, 0, 1, 0, 0, 0, 0, 1, 0, 0, 0, 1, 0, 0, 1, 0, 0, 0, 1, 0, 0, 0, 0, 0, 0, 0, 1, 1, 1, 1, 0, 0, 2, 3, 2, 0, 0, 3, 0, 0, 0, 0, 0, 0, 0, 0, 0, 0, 3, 2, 3, 2, 3, 0, 0, 1, 1, 1, 1, 4, 0, 0, 4, 0, 0, 1, 1, 1, 1, 5, 0, 1, 0, 5, 5, 5, 0, 0, 1, 1, 1, 1, 1, 1, 1, 0, 1, 0, 1, 1, 0, 1, 0, 1, 1, 2, 1, 0, 1, 0, 1, 0, 1, 1, 2, 1, 0, 1, 0, 1, 0, 1, 1, 2, 1, 0, 1, 0, 1, 0, 1, 1, 2, 1, 0, 1, 13, 12, 13, 12, 13, 12, 13, 13, 0, 1, 0, 14, 13, 15, 14, 15, 2, 2, 0, 2, 0, 1, 0, 1, 0, 1, 0, 1, 1, 3, 1, 0, 16, 15, 16, 0, 0, 0, 16, 16, 0, 1, 0, 16, 16, 0, 1, 0, 16, 2, 2, 2, 2, 16, 0, 2, 0, 2, 1, 2, 0, 1, 0, 1, 0, 1, 1, 3, 1, 0, 16, 15, 16, 0, 0, 0, 16, 16, 0, 1, 0, 16, 16, 0, 1, 0, 16, 2, 2, 2, 2, 16, 0, 2, 0, 2, 1, 2, 0, 1, 0, 1, 0, 1, 1, 3, 1, 0, 16, 15, 16, 0, 0, 0, 16, 16, 0, 0, 0, 1, 0, 1, 0, 1, 1, 3, 1, 0, 1, 0, 18, 18, 17, 18, 18, 18, 0, 0, 4, 4, 0, 0, 18, 17, 18, 0, 0, 0, 0]
noncomputable def npD_e (w : World) : List (Of Ent) := [fun ρ _ => entOf (o860 w.params) 860 (ρ 0), fun ρ _ => entOf (o825 w.params) 825 (ρ 1), fun ρ _ => entOf (o853 w.params) 853 (ρ 3), fun ρ _ => entOf (o825 w.params) 825 (ρ 4)]
noncomputable def npLL_h : List Nat := [0, 0, 1, 0, 0, 1, 0, 0, 0, 0, 1, 0, 0, 0, 1, 0, 0, 1, 0, 0, 0, 1, 0, 0, 0, 0, 0, 0, 0, 1, 1, 1, 1, 0, 0, 2, 3, 2, 0, 0, 3, 0, 0, 0, 0, 0, 0, 0, 0, 0, 0, 3, 2, 3, 2, 3, 2, 3, 0, 0, 0, 0, 3, 0, 0, 0, 0, 1, 0, 0, 1, 0, 0, 0, 0, 1, 0, 0, 0, 1, 0, 0, 1, 0, 0, 0, 1, 0, 0, 0, 0, 0, 0, 0, 1, 1, 1, 1, 0, 0, 2, 3, 2, 0, 0, 3, 0, 0, 0, 0, 0, 0, 0, 0, 0, 0, 3, 2, 3, 2, 3, 0, 0, 1, 1, 1, 1, 4, 0, 0, 4, 0, 0, 1, 1, 1, 1, 5, 0, 1, 0, 5, 5, 5, 0, 0, 1, 1, 1, 1, 1, 1, 1, 0, 1, 0, 1, 1, 0, 1, 0, 1, 1, 2, 1, 0, 1, 0, 1, 0, 1, 1, 2, 1, 0, 1, 0, 1, 0, 1, 1, 2, 1, 0, 1, 0, 1, 0, 1, 1, 2, 1, 0, 1, 13, 12, 13, 12, 13, 12, 13, 13, 0, 1, 0, 14, 13, 15, 14, 15, 2, 2, 0, 2, 0, 1, 0, 1, 0, 1, 0, 1, 1, 3, 1, 0, 16, 15, 16, 0, 0, 0, 16, 16, 0, 1, 0, 16, 16, 0, 1, 0, 16, 2, 2, 2, 2, 16, 0, 2, 0, 2, 1, 2, 0, 1, 0, 1, 0, 1, 1, 3, 1, 0, 16, 15, 16, 0, 0, 0, 16, 16, 0, 1, 0, 16, 16, 0, 1, 0, 16, 2, 2, 2, 2, 16, 0, 2, 0, 2, 1, 2, 0, 1, 0, 1, 0, 1, 1, 3, 1, 0, 16, 15, 16, 0, 0, 0, 16, 16, 0, 1, 0, 16, 16, 0, 1, 0, 16, 2, 2, 2, 2, 16, 0, 2, 0, 2, 1, 2, 0, 1, 0, 1, 0, 1, 1, 3, 1, 0, 16, 15, 16, 0, 0, 0, 16, 16, 0, 1, 0, 16, 16, 0, 1, 0, 16, 2, 2, 2, 2, 16, 0, 2, 0, 2, 1, 2, 0, 1, 0, 1, 0, 1, 1, 3, 1, 0, 1, 0, 18, 18, 17, 18, 18, 18, 0, 0, 4, 4, 0, 0, 18, 17, 18, 0, 0, 0, 0]
noncomputable def npLL_e (w : World) : List (Of Ent) := [fun ρ _ => entOf (o860 w.params) 860 (ρ 0), fun ρ _ => entOf (o825 w.params) 825 (ρ 1), fun ρ _ => entOf (o853 w.params) 853 (ρ 3), fun ρ _ => entOf (o825 w.params) 825 (ρ 4)]
noncomputable def npLU_h : List Nat := [0, 0, 1, 0, 0, 1, 0, 0, 0, 0, 1, 0, 0, 0, 1, 0, 0, 1, 0, 0, 0, 1, 0, 0, 0, 0, 0, 0, 0, 1, 1, 1, 1, 0, 0, 2, 3, 2, 0, 0, 3, 0, 0, 0, 0, 0, 0, 0, 0, 0, 0, 3, 2, 3, 2, 3, 2, 3, 0, 0, 0, 0, 3, 0, 0, 0, 0, 1, 0, 0, 1, 0, 0, 0, 0, 1, 0, 0, 0, 1, 0, 0, 1, 0, 0, 0, 1, 0, 0, 0, 0, 0, 0, 0, 1, 1, 1, 1, 0, 0, 2, 3, 2, 0, 0, 3, 0, 0, 0, 0, 0, 0, 0, 0, 0, 0, 3, 2, 3, 2, 3, 0, 0, 1, 1, 1, 1, 4, 0, 0, 4, 0, 0, 1, 1, 1, 1, 5, 0, 1, 0, 5, 5, 5, 0, 0, 1, 1, 1, 1, 1, 1, 1, 0, 1, 0, 1, 1, 0, 1, 0, 1, 1, 2, 1, 0, 1, 0, 1, 0, 1, 1, 2, 1, 0, 1, 0, 1, 0, 1, 1, 2, 1, 0, 1, 0, 1, 0, 1, 1, 2, 1, 0, 1, 13, 12, 13, 12, 13, 12, 13, 13, 0, 1, 0, 14, 13, 15, 14, 15, 2, 2, 0, 2, 0, 1, 0, 1, 0, 1, 0, 1, 1, 3, 1, 0, 16, 15, 16, 0, 0, 0, 16, 16, 0, 1, 0, 16, 16, 0, 1, 0, 16, 2, 2, 2, 2, 16, 0, 2, 0, 2, 1, 2, 0, 1, 0, 1, 0, 1, 1, 3, 1, 0, 16, 15, 16, 0, 0, 0, 16, 16, 0, 1, 0, 16, 16, 0, 1, 0, 16, 2, 2, 2, 2, 16, 0, 2, 0, 2, 1, 2, 0, 1, 0, 1, 0, 1, 1, 3, 1, 0, 16, 15, 16, 0, 0, 0, 16, 16, 0, 1, 0, 16, 16, 0, 1, 0, 16, 2, 2, 2, 2, 16, 0, 2, 0, 2, 1, 2, 0, 1, 0, 1, 0, 1, 1, 3, 1, 0, 16, 15, 16, 0, 0, 0, 16, 16, 0, 0, 16, 16, 0, 0, 16, 0, 0, 0, 16, 2, 2, 0, 2, 0, 2, 0, 2, 16, 0, 0, 2, 2, 2, 0, 2, 0, 2, 16, 0, 1, 0, 16, 2, 2, 0, 2, 0, 2, 0, 2, 16, 2, 2, 2, 2, 0, 2, 0, 2, 2, 1, 2, 0, 1, 0, 1, 0, 1, 1, 3, 1, 0, 1, 0, 18, 18, 17, 18, 18, 18, 0, 0, 4, 4, 0, 0, 18, 17, 18, 0, 0, 0, 0]
noncomputable def npLU_e (w : World) : List (Of Ent) := [fun ρ _ => entOf (o860 w.params) 860 (ρ 0), fun ρ _ => entOf (o825 w.params) 825 (ρ 1), fun ρ _ => entOf (o853 w.params) 853 (ρ 3), fun ρ _ => entOf (o825 w.params) 825 (ρ 4)]
noncomputable def npLD_h : List Nat := [0, 0, 1, 0, 0, 1, 0, 0, 0, 0, 1, 0, 0, 0, 1, 0, 0, 1, 0, 0, 0, 1, 0, 0, 0, 0, 0, 0, 0, 1, 1, 1, 1, 0, 0, 2, 3, 2, 0, 0, 3, 0, 0, 0, 0, 0, 0, 0, 0, 0, 0, 3, 2, 3, 2, 3, 2, 3, 0, 0, 0, 0, 3, 0, 0, 0, 0, 1, 0, 0, 1, 0, 0, 0, 0, 1, 0, 0, 0, 1, 0, 0, 1, 0, 0, 0, 1, 0, 0, 0, 0, 0, 0, 0, 1, 1, 1, 1, 0, 0, 2, 3, 2, 0, 0, 3, 0, 0, 0, 0, 0, 0, 0, 0, 0, 0, 3, 2, 3, 2, 3, 0, 0, 1, 1, 1, 1, 4, 0, 0, 4, 0, 0, 1, 1, 1, 1, 5, 0, 1, 0, 5, 5, 5, 0, 0, 1, 1, 1, 1, 1, 1, 1, 0, 1, 0, 1, 1, 0, 1, 0, 1, 1, 2, 1, 0, 1, 0, 1, 0, 1, 1, 2, 1, 0, 1, 0, 1, 0, 1, 1, 2, 1, 0, 1, 0, 1, 0, 1, 1, 2, 1, 0, 1, 13, 12, 13, 12, 13, 12, 13, 13, 0, 1, 0, 14, 13, 15, 14, 15, 2, 2, 0, 2, 0, 1, 0, 1, 0, 1, 0, 1, 1, 3, 1, 0, 16, 15, 16, 0, 0, 0, 16, 16, 0, 1, 0, 16, 16, 0, 1, 0, 16, 2, 2, 2, 2, 16, 0, 2, 0, 2, 1, 2, 0, 1, 0, 1, 0, 1, 1, 3, 1, 0, 16, 15, 16, 0, 0, 0, 16, 16, 0, 1, 0, 16, 16, 0, 1, 0, 16, 2, 2, 2, 2, 16, 0, 2, 0, 2, 1, 2, 0, 1, 0, 1, 0, 1, 1, 3, 1, 0, 16, 15, 16, 0, 0, 0, 16, 16, 0, 1, 0, 16, 16, 0, 1, 0, 16, 2, 2, 2, 2, 16, 0, 2, 0, 2, 1, 2, 0, 1, 0, 1, 0, 1, 1, 3, 1, 0, 16, 15, 16, 0, 0, 0, 16, 16, 0, 0, 0, 1, 0, 1, 0, 1, 1, 3, 1, 0, 1, 0, 18, 18, 17, 18, 18, 18, 0, 0, 4, 4, 0, 0, 18, 17, 18, 0, 0, 0, 0]
noncomputable def npLD_e (w : World) : List (Of Ent) := [fun ρ _ => entOf (o860 w.params) 860 (ρ 0), fun ρ _ => entOf (o825 w.params) 825 (ρ 1), fun ρ _ => entOf (o853 w.params) 853 (ρ 3), fun ρ _ => entOf (o825 w.params) 825 (ρ 4)]
noncomputable def npUL_h : List Nat := [0, 0, 1, 0, 0, 1, 0, 0, 0, 0, 1, 0, 0, 0, 1, 0, 0, 1, 0, 0, 0, 1, 0, 0, 0, 0, 0, 0, 0, 1, 1, 1, 1, 0, 0, 2, 3, 2, 0, 0, 3, 0, 0, 0, 0, 0, 0, 0, 0, 0, 0, 3, 2, 3, 2, 3, 2, 3, 0, 0, 0, 0, 3, 0, 0, 0, 0, 1, 0, 0, 1, 0, 0, 0, 0, 1, 0, 0, 0, 1, 0, 0, 1, 0, 0, 0, 1, 0, 0, 0, 0, 0, 0, 0, 1, 1, 1, 1, 0, 0, 2, 3, 2, 0, 0, 3, 0, 0, 0, 0, 0, 0, 0, 0, 0, 0, 3, 2, 3, 2, 3, 0, 0, 1, 1, 1, 1, 4, 0, 0, 4, 0, 0, 1, 1, 1, 1, 5, 0, 1, 0, 5, 5, 5, 0, 0, 1, 1, 1, 1, 1, 1, 1, 0, 1, 0, 1, 1, 0, 1, 0, 1, 1, 2, 1, 0, 1, 0, 1, 0, 1, 1, 2, 1, 0, 1, 0, 1, 0, 1, 1, 2, 1, 0, 1, 0, 1, 0, 1, 1, 2, 1, 0, 1, 13, 12, 13, 12, 13, 12, 13, 13, 0, 1, 0, 14, 13, 15, 14, 15, 2, 2, 0, 2, 0, 1, 0, 1, 0, 1, 0, 1, 1, 3, 1, 0, 16, 15, 16, 0, 0, 0, 16, 16, 0, 1, 0, 16, 16, 0, 1, 0, 16, 2, 2, 2, 2, 16, 0, 2, 0, 2, 1, 2, 0, 1, 0, 1, 0, 1, 1, 3, 1, 0, 16, 15, 16, 0, 0, 0, 16, 16, 0, 1, 0, 16, 16, 0, 1, 0, 16, 2, 2, 2, 2, 16, 0, 2, 0, 2, 1, 2, 0, 1, 0, 1, 0, 1, 1, 3, 1, 0, 16, 15, 16, 0, 0, 0, 16, 16, 0, 0, 16, 16, 0, 0, 16, 0, 0, 0, 16, 2, 2, 0, 2, 0, 2, 0, 2, 16, 0, 0, 2, 2, 2, 0, 2, 0, 2, 16, 0, 1, 0, 16, 2, 2, 0, 2, 0, 2, 0, 2, 16, 2, 2, 2, 2, 0, 2, 0, 2, 2, 1, 2, 0, 1, 0, 1, 0, 1, 1, 3, 1, 0, 16, 15, 16, 0, 0, 0, 16, 16, 0, 1, 0, 16, 16, 0, 1, 0, 16, 2, 2, 2, 2, 16, 0, 2, 0, 2, 1, 2, 0, 1, 0, 1, 0, 1, 1, 3, 1, 0, 1, 0, 18, 18, 17, 18, 18, 18, 0, 0, 4, 4, 0, 0, 18, 17, 18, 0, 0, 0, 0]
noncomputable def npUL_e (w : World) : List (Of Ent) := [fun ρ _ => entOf (o860 w.params) 860 (ρ 0), fun ρ _ => entOf (o825 w.params) 825 (ρ 1), fun ρ _ => entOf (o853 w.params) 853 (ρ 3), fun ρ _ => entOf (o825 w.params) 825 (ρ 4)]
noncomputable def npUU_h : List Nat := [0, 0, 1, 0, 0, 1, 0, 0, 0, 0, 1, 0, 0, 0, 1, 0, 0, 1, 0, 0, 0, 1, 0, 0, 0, 0, 0, 0, 0, 1, 1, 1, 1, 0, 0, 2, 3, 2, 0, 0, 3, 0, 0, 0, 0, 0, 0, 0, 0, 0, 0, 3, 2, 3, 2, 3, 2, 3, 0, 0, 0, 0, 3, 0, 0, 0, 0, 1, 0, 0, 1, 0, 0, 0, 0, 1, 0, 0, 0, 1, 0, 0, 1, 0, 0, 0, 1, 0, 0, 0, 0, 0, 0, 0, 1, 1, 1, 1, 0, 0, 2, 3, 2, 0, 0, 3, 0, 0, 0, 0, 0, 0, 0, 0, 0, 0, 3, 2, 3, 2, 3, 0, 0, 1, 1, 1, 1, 4, 0, 0, 4, 0, 0, 1, 1, 1, 1, 5, 0, 1, 0, 5, 5, 5, 0, 0, 1, 1, 1, 1, 1, 1, 1, 0, 1, 0, 1, 1, 0, 1, 0, 1, 1, 2, 1, 0, 1, 0, 1, 0, 1, 1, 2, 1, 0, 1, 0, 1, 0, 1, 1, 2, 1, 0, 1, 0, 1, 0, 1, 1, 2, 1, 0, 1, 13, 12, 13, 12, 13, 12, 13, 13, 0, 1, 0, 14, 13, 15, 14, 15, 2, 2, 0, 2, 0, 1, 0, 1, 0, 1, 0, 1, 1, 3, 1, 0, 16, 15, 16, 0, 0, 0, 16, 16, 0, 1, 0, 16, 16, 0, 1, 0, 16, 2, 2, 2, 2, 16, 0, 2, 0, 2, 1, 2, 0, 1, 0, 1, 0, 1, 1, 3, 1, 0, 16, 15, 16, 0, 0, 0, 16, 16, 0, 1, 0, 16, 16, 0, 1, 0, 16, 2, 2, 2, 2, 16, 0, 2, 0, 2, 1, 2, 0, 1, 0, 1, 0, 1, 1, 3, 1, 0, 16, 15, 16, 0, 0, 0, 16, 16, 0, 0, 16, 16, 0, 0, 16, 0, 0, 0, 16, 2, 2, 0, 2, 0, 2, 0, 2, 16, 0, 0, 2, 2, 2, 0, 2, 0, 2, 16, 0, 1, 0, 16, 2, 2, 0, 2, 0, 2, 0, 2, 16, 2, 2, 2, 2, 0, 2, 0, 2, 2, 1, 2, 0, 1, 0, 1, 0, 1, 1, 3, 1, 0, 16, 15, 16, 0, 0, 0, 16, 16, 0, 0, 16, 16, 0, 0, 16, 0, 0, 0, 16, 2, 2, 0, 2, 0, 2, 0, 2, 16, 0, 0, 2, 2, 2, 0, 2, 0, 2, 16, 0, 1, 0, 16, 2, 2, 0, 2, 0, 2, 0, 2, 16, 2, 2, 2, 2, 0, 2, 0, 2, 2, 1, 2, 0, 1, 0, 1, 0, 1, 1, 3, 1, 0, 1, 0, 18, 18, 17, 18, 18, 18, 0, 0, 4, 4, 0, 0, 18, 17, 18, 0, 0, 0, 0]
noncomputable def npUU_e (w : World) : List (Of Ent) := [fun ρ _ => entOf (o860 w.params) 860 (ρ 0), fun ρ _ => entOf (o825 w.params) 825 (ρ 1), fun ρ _ => entOf (o853 w.params) 853 (ρ 3), fun ρ _ => entOf (o825 w.params) 825 (ρ 4)]
noncomputable def npUD_h : List Nat := [0, 0, 1, 0, 0, 1, 0, 0, 0, 0, 1, 0, 0, 0, 1, 0, 0, 1, 0, 0, 0, 1, 0, 0, 0, 0, 0, 0, 0, 1, 1, 1, 1, 0, 0, 2, 3, 2, 0, 0, 3, 0, 0, 0, 0, 0, 0, 0, 0, 0, 0, 3, 2, 3, 2, 3, 2, 3, 0, 0, 0, 0, 3, 0, 0, 0, 0, 1, 0, 0, 1, 0, 0, 0, 0, 1, 0, 0, 0, 1, 0, 0, 1, 0, 0, 0, 1, 0, 0, 0, 0, 0, 0, 0, 1, 1, 1, 1, 0, 0, 2, 3, 2, 0, 0, 3, 0, 0, 0, 0, 0, 0, 0, 0, 0, 0, 3, 2, 3, 2, 3, 0, 0, 1, 1, 1, 1, 4, 0, 0, 4, 0, 0, 1, 1, 1, 1, 5, 0, 1, 0, 5, 5, 5, 0, 0, 1, 1, 1, 1, 1, 1, 1, 0, 1, 0, 1, 1, 0, 1, 0, 1, 1, 2, 1, 0, 1, 0, 1, 0, 1, 1, 2, 1, 0, 1, 0, 1, 0, 1, 1, 2, 1, 0, 1, 0, 1, 0, 1, 1, 2, 1, 0, 1, 13, 12, 13, 12, 13, 12, 13, 13, 0, 1, 0, 14, 13, 15, 14, 15, 2, 2, 0, 2, 0, 1, 0, 1, 0, 1, 0, 1, 1, 3, 1, 0, 16, 15, 16, 0, 0, 0, 16, 16, 0, 1, 0, 16, 16, 0, 1, 0, 16, 2, 2, 2, 2, 16, 0, 2, 0, 2, 1, 2, 0, 1, 0, 1, 0, 1, 1, 3, 1, 0, 16, 15, 16, 0, 0, 0, 16, 16, 0, 1, 0, 16, 16, 0, 1, 0, 16, 2, 2, 2, 2, 16, 0, 2, 0, 2, 1, 2, 0, 1, 0, 1, 0, 1, 1, 3, 1, 0, 16, 15, 16, 0, 0, 0, 16, 16, 0, 0, 16, 16, 0, 0, 16, 0, 0, 0, 16, 2, 2, 0, 2, 0, 2, 0, 2, 16, 0, 0, 2, 2, 2, 0, 2, 0, 2, 16, 0, 1, 0, 16, 2, 2, 0, 2, 0, 2, 0, 2, 16, 2, 2, 2, 2, 0, 2, 0, 2, 2, 1, 2, 0, 1, 0, 1, 0, 1, 1, 3, 1, 0, 16, 15, 16, 0, 0, 0, 16, 16, 0, 0, 0, 1, 0, 1, 0, 1, 1, 3, 1, 0, 1, 0, 18, 18, 17, 18, 18, 18, 0, 0, 4, 4, 0, 0, 18, 17, 18, 0, 0, 0, 0]
noncomputable def npUD_e (w : World) : List (Of Ent) := [fun ρ _ => entOf (o860 w.params) 860 (ρ 0), fun ρ _ => entOf (o825 w.params) 825 (ρ 1), fun ρ _ => entOf (o853 w.params) 853 (ρ 3), fun ρ _ => entOf (o825 w.params) 825 (ρ 4)]
noncomputable def npDL_h : List Nat := [0, 0, 1, 0, 0, 1, 0, 0, 0, 0, 1, 0, 0, 0, 1, 0, 0, 1, 0, 0, 0, 1, 0, 0, 0, 0, 0, 0, 0, 1, 1, 1, 1, 0, 0, 2, 3, 2, 0, 0, 3, 0, 0, 0, 0, 0, 0, 0, 0, 0, 0, 3, 2, 3, 2, 3, 2, 3, 0, 0, 0, 0, 3, 0, 0, 0, 0, 1, 0, 0, 1, 0, 0, 0, 0, 1, 0, 0, 0, 1, 0, 0, 1, 0, 0, 0, 1, 0, 0, 0, 0, 0, 0, 0, 1, 1, 1, 1, 0, 0, 2, 3, 2, 0, 0, 3, 0, 0, 0, 0, 0, 0, 0, 0, 0, 0, 3, 2, 3, 2, 3, 0, 0, 1, 1, 1, 1, 4, 0, 0, 4, 0, 0, 1, 1, 1, 1, 5, 0, 1, 0, 5, 5, 5, 0, 0, 1, 1, 1, 1, 1, 1, 1, 0, 1, 0, 1, 1, 0, 1, 0, 1, 1, 2, 1, 0, 1, 0, 1, 0, 1, 1, 2, 1, 0, 1, 0, 1, 0, 1, 1, 2, 1, 0, 1, 0, 1, 0, 1, 1, 2, 1, 0, 1, 13, 12, 13, 12, 13, 12, 13, 13, 0, 1, 0, 14, 13, 15, 14, 15, 2, 2, 0, 2, 0, 1, 0, 1, 0, 1, 0, 1, 1, 3, 1, 0, 16, 15, 16, 0, 0, 0, 16, 16, 0, 1, 0, 16, 16, 0, 1, 0, 16, 2, 2, 2, 2, 16, 0, 2, 0, 2, 1, 2, 0, 1, 0, 1, 0, 1, 1, 3, 1, 0, 16, 15, 16, 0, 0, 0, 16, 16, 0, 1, 0, 16, 16, 0, 1, 0, 16, 2, 2, 2, 2, 16, 0, 2, 0, 2, 1, 2, 0, 1, 0, 1, 0, 1, 1, 3, 1, 0, 16, 15, 16, 0, 0, 0, 16, 16, 0, 0, 0, 1, 0, 1, 0, 1, 1, 3, 1, 0, 16, 15, 16, 0, 0, 0, 16, 16, 0, 1, 0, 16, 16, 0, 1, 0, 16, 2, 2, 2, 2, 16, 0, 2, 0, 2, 1, 2, 0, 1, 0, 1, 0, 1, 1, 3, 1, 0, 1, 0, 18, 18, 17, 18, 18, 18, 0, 0, 4, 4, 0, 0, 18, 17, 18, 0, 0, 0, 0]
noncomputable def npDL_e (w : World) : List (Of Ent) := [fun ρ _ => entOf (o860 w.params) 860 (ρ 0), fun ρ _ => entOf (o825 w.params) 825 (ρ 1), fun ρ _ => entOf (o853 w.params) 853 (ρ 3), fun ρ _ => entOf (o825 w.params) 825 (ρ 4)]
noncomputable def npDU_h : List Nat := [0, 0, 1, 0, 0, 1, 0, 0, 0, 0, 1, 0, 0, 0, 1, 0, 0, 1, 0, 0, 0, 1, 0, 0, 0, 0, 0, 0, 0, 1, 1, 1, 1, 0, 0, 2, 3, 2, 0, 0, 3, 0, 0, 0, 0, 0, 0, 0, 0, 0, 0, 3, 2, 3, 2, 3, 2, 3, 0, 0, 0, 0, 3, 0, 0, 0, 0, 1, 0, 0, 1, 0, 0, 0, 0, 1, 0, 0, 0, 1, 0, 0, 1, 0, 0, 0, 1, 0, 0, 0, 0, 0, 0, 0, 1, 1, 1, 1, 0, 0, 2, 3, 2, 0, 0, 3, 0, 0, 0, 0, 0, 0, 0, 0, 0, 0, 3, 2, 3, 2, 3, 0, 0, 1, 1, 1, 1, 4, 0, 0, 4, 0, 0, 1, 1, 1, 1, 5, 0, 1, 0, 5, 5, 5, 0, 0, 1, 1, 1, 1, 1, 1, 1, 0, 1, 0, 1, 1, 0, 1, 0, 1, 1, 2, 1, 0, 1, 0, 1, 0, 1, 1, 2, 1, 0, 1, 0, 1, 0, 1, 1, 2, 1, 0, 1, 0, 1, 0, 1, 1, 2, 1, 0, 1, 13, 12, 13, 12, 13, 12, 13, 13, 0, 1, 0, 14, 13, 15, 14, 15, 2, 2, 0, 2, 0, 1, 0, 1, 0, 1, 0, 1, 1, 3, 1, 0, 16, 15, 16, 0, 0, 0, 16, 16, 0, 1, 0, 16, 16, 0, 1, 0, 16, 2, 2, 2, 2, 16, 0, 2, 0, 2, 1, 2, 0, 1, 0, 1, 0, 1, 1, 3, 1, 0, 16, 15, 16, 0, 0, 0, 16, 16, 0, 1, 0, 16, 16, 0, 1, 0, 16, 2, 2, 2, 2, 16, 0, 2, 0, 2, 1, 2, 0, 1, 0, 1, 0, 1, 1, 3, 1, 0, 16, 15, 16, 0, 0, 0, 16, 16, 0, 0, 0, 1, 0, 1, 0, 1, 1, 3, 1, 0, 16, 15, 16, 0, 0, 0, 16, 16, 0, 0, 16, 16, 0, 0, 16, 0, 0, 0, 16, 2, 2, 0, 2, 0, 2, 0, 2, 16, 0, 0, 2, 2, 2, 0, 2, 0, 2, 16, 0, 1, 0, 16, 2, 2, 0, 2, 0, 2, 0, 2, 16, 2, 2, 2, 2, 0, 2, 0, 2, 2, 1, 2, 0, 1, 0, 1, 0, 1, 1, 3, 1, 0, 1, 0, 18, 18, 17, 18, 18, 18, 0, 0, 4, 4, 0, 0, 18, 17, 18, 0, 0, 0, 0]
noncomputable def npDU_e (w : World) : List (Of Ent) := [fun ρ _ => entOf (o860 w.params) 860 (ρ 0), fun ρ _ => entOf (o825 w.params) 825 (ρ 1), fun ρ _ => entOf (o853 w.params) 853 (ρ 3), fun ρ _ => entOf (o825 w.params) 825 (ρ 4)]
noncomputable def npDD_h : List Nat := [0, 0, 1, 0, 0, 1, 0, 0, 0, 0, 1, 0, 0, 0, 1, 0, 0, 1, 0, 0, 0, 1, 0, 0, 0, 0, 0, 0, 0, 1, 1, 1, 1, 0, 0, 2, 3, 2, 0, 0, 3, 0, 0, 0, 0, 0, 0, 0, 0, 0, 0, 3, 2, 3, 2, 3, 2, 3, 0, 0, 0, 0, 3, 0, 0, 0, 0, 1, 0, 0, 1, 0, 0, 0, 0, 1, 0, 0, 0, 1, 0, 0, 1, 0, 0, 0, 1, 0, 0, 0, 0, 0, 0, 0, 1, 1, 1, 1, 0, 0, 2, 3, 2, 0, 0, 3, 0, 0, 0, 0, 0, 0, 0, 0, 0, 0, 3, 2, 3, 2, 3, 0, 0, 1, 1, 1, 1, 4, 0, 0, 4, 0, 0, 1, 1, 1, 1, 5, 0, 1, 0, 5, 5, 5, 0, 0, 1, 1, 1, 1, 1, 1, 1, 0, 1, 0, 1, 1, 0, 1, 0, 1, 1, 2, 1, 0, 1, 0, 1, 0, 1, 1, 2, 1, 0, 1, 0, 1, 0, 1, 1, 2, 1, 0, 1, 0, 1, 0, 1, 1, 2, 1, 0, 1, 13, 12, 13, 12, 13, 12, 13, 13, 0, 1, 0, 14, 13, 15, 14, 15, 2, 2, 0, 2, 0, 1, 0, 1, 0, 1, 0, 1, 1, 3, 1, 0, 16, 15, 16, 0, 0, 0, 16, 16, 0, 1, 0, 16, 16, 0, 1, 0, 16, 2, 2, 2, 2, 16, 0, 2, 0, 2, 1, 2, 0, 1, 0, 1, 0, 1, 1, 3, 1, 0, 16, 15, 16, 0, 0, 0, 16, 16, 0, 1, 0, 16, 16, 0, 1, 0, 16, 2, 2, 2, 2, 16, 0, 2, 0, 2, 1, 2, 0, 1, 0, 1, 0, 1, 1, 3, 1, 0, 16, 15, 16, 0, 0, 0, 16, 16, 0, 0, 0, 1, 0, 1, 0, 1, 1, 3, 1, 0, 16, 15, 16, 0, 0, 0, 16, 16, 0, 0, 0, 1, 0, 1, 0, 1, 1, 3, 1, 0, 1, 0, 18, 18, 17, 18, 18, 18, 0, 0, 4, 4, 0, 0, 18, 17, 18, 0, 0, 0, 0]
noncomputable def npDD_e (w : World) : List (Of Ent) := [fun ρ _ => entOf (o860 w.params) 860 (ρ 0), fun ρ _ => entOf (o825 w.params) 825 (ρ 1), fun ρ _ => entOf (o853 w.params) 853 (ρ 3), fun ρ _ => entOf (o825 w.params) 825 (ρ 4)]
end Mine
end
section
open PySem PySem.W PySem.W.X PyProof.Rows
set_option Elab.async false
set_option maxRecDepth 100000
namespace Mine
section
variable (w : World) (b c : Bool) (ρ : Nat → Addr) (τ : Nat → Tok) (x y : Nat) (t : Tok)
theorem np_run : Both (runOf (wF w b c) ρ τ 1100 (npZ x (.L y :: []) 44) np_h (npK x (.L y :: [])) (np_e (wF w b c)) 10 (.call (.ref 860) ⟨[sv (wordS (.L x :: (.L y :: []))) t], []⟩) []) := by
  cases b <;> exact both_of (by kernel_rfl)
theorem npL_run (d0 : Nat) : Both (runOf (wF w b c) ρ τ 1100 (npZ x (.L y :: [.L d0]) 48) npL_h (npK x (.L y :: [.L d0])) (npL_e (wF w b c)) 10 (.call (.ref 860) ⟨[sv (wordS (.L x :: (.L y :: [.L d0]))) t], []⟩) []) := by
  cases b <;> exact both_of (by kernel_rfl)
theorem npU_run : Both (runOf (wF w b c) ρ τ 1100 (npZ x (.L y :: [.U]) 55) npU_h (npK x (.L y :: [.U])) (npU_e (wF w b c)) 10 (.call (.ref 860) ⟨[sv (wordS (.L x :: (.L y :: [.U]))) t], []⟩) []) := by
  cases b <;> exact both_of (by kernel_rfl)
theorem npD_run : Both (runOf (wF w b c) ρ τ 1100 (npZ x (.L y :: [.D]) 48) npD_h (npK x (.L y :: [.D])) (npD_e (wF w b c)) 10 (.call (.ref 860) ⟨[sv (wordS (.L x :: (.L y :: [.D]))) t], []⟩) []) := by
  cases b <;> exact both_of (by kernel_rfl)
theorem npLL_run (d0 d1 : Nat) : Both (runOf (wF w b c) ρ τ 1100 (npZ x (.L y :: [.L d0, .L d1]) 52) npLL_h (npK x (.L y :: [.L d0, .L d1])) (npLL_e (wF w b c)) 10 (.call (.ref 860) ⟨[sv (wordS (.L x :: (.L y :: [.L d0, .L d1]))) t], []⟩) []) := by
  cases b <;> exact both_of (by kernel_rfl)
theorem npLU_run (d0 : Nat) : Both (runOf (wF w b c) ρ τ 1100 (npZ x (.L y :: [.L d0, .U]) 60) npLU_h (npK x (.L y :: [.L d0, .U])) (npLU_e (wF w b c)) 10 (.call (.ref 860) ⟨[sv (wordS (.L x :: (.L y :: [.L d0, .U]))) t], []⟩) []) := by
  cases b <;> exact both_of (by kernel_rfl)
theorem npLD_run (d0 : Nat) : Both (runOf (wF w b c) ρ τ 1100 (npZ x (.L y :: [.L d0, .D]) 52) npLD_h (npK x (.L y :: [.L d0, .D])) (npLD_e (wF w b c)) 10 (.call (.ref 860) ⟨[sv (wordS (.L x :: (.L y :: [.L d0, .D]))) t], []⟩) []) := by
  cases b <;> exact both_of (by kernel_rfl)
theorem npUL_run (d1 : Nat) : Both (runOf (wF w b c) ρ τ 1100 (npZ x (.L y :: [.U, .L d1]) 60) npUL_h (npK x (.L y :: [.U, .L d1])) (npUL_e (wF w b c)) 10 (.call (.ref 860) ⟨[sv (wordS (.L x :: (.L y :: [.U, .L d1]))) t], []⟩) []) := by
  cases b <;> exact both_of (by kernel_rfl)
theorem npUU_run : Both (runOf (wF w b c) ρ τ 1100 (npZ x (.L y :: [.U, .U]) 18) npUU_h (npK x (.L y :: [.U, .U])) (npUU_e (wF w b c)) 10 (.call (.ref 860) ⟨[sv (wordS (.L x :: (.L y :: [.U, .U]))) t], []⟩) []) := by
  cases b <;> exact both_of (by kernel_rfl)
theorem npUD_run : Both (runOf (wF w b c) ρ τ 1100 (npZ x (.L y :: [.U, .D]) 59) npUD_h (npK x (.L y :: [.U, .D])) (npUD_e (wF w b c)) 10 (.call (.ref 860) ⟨[sv (wordS (.L x :: (.L y :: [.U, .D]))) t], []⟩) []) := by
  cases b <;> exact both_of (by kernel_rfl)
theorem npDL_run (d1 : Nat) : Both (runOf (wF w b c) ρ τ 1100 (npZ x (.L y :: [.D, .L d1]) 52) npDL_h (npK x (.L y :: [.D, .L d1])) (npDL_e (wF w b c)) 10 (.call (.ref 860) ⟨[sv (wordS (.L x :: (.L y :: [.D, .L d1]))) t], []⟩) []) := by
  cases b <;> exact both_of (by kernel_rfl)
theorem npDU_run : Both (runOf (wF w b c) ρ τ 1100 (npZ x (.L y :: [.D, .U]) 59) npDU_h (npK x (.L y :: [.D, .U])) (npDU_e (wF w b c)) 10 (.call (.ref 860) ⟨[sv (wordS (.L x :: (.L y :: [.D, .U]))) t], []⟩) []) := by
  cases b <;> exact both_of (by kernel_rfl)
theorem npDD_run : Both (runOf (wF w b c) ρ τ 1100 (npZ x (.L y :: [.D, .D]) 52) npDD_h (npK x (.L y :: [.D, .D])) (npDD_e (wF w b c)) 10 (.call (.ref 860) ⟨[sv (wordS (.L x :: (.L y :: [.D, .D]))) t], []⟩) []) := by
  cases b <;> exact both_of (by kernel_rfl)
end
end Mine
end
section
open PySem PySem.W PySem.W.X PyProof.Rows
set_option Elab.async false
set_option maxRecDepth 100000
namespace Mine
theorem oks_mem {w : World} {l : List Stp} : ∀ {i : Nat} {acc : List (Nat × Nat)}, (∀ c, Stp.L c ∈ l → c ≠ 46) → Oks w (npL l i acc) := by
  induction l with
  | nil => exact fun _ => Oks.nil
  | cons s l ih =>
    intro i acc h
    cases s with
    | L c => exact .cons (fun _ _ => seq_is (by simpa using h c (.head _))) (.cons (fun _ _ => sne_is (by simp)) (ih fun c hc => h c (.tail _ hc)))
    | D => exact ih fun c hc => h c (.tail _ hc)
    | U =>
      unfold npL
      split
      · exact ih fun c hc => h c (.tail _ hc)
      · exact .cons (fun _ _ => seq_is (by simp)) (ih fun c hc => h c (.tail _ hc))
theorem wordS_join : ∀ l : List Stp, l ≠ [] → wordS l = 47 :: joinN 47 (l.map stl)
  | [], h => absurd rfl h
  | [s], _ => by simp [wordS, joinN]
  | s :: q :: l, _ => by
    have := wordS_join (q :: l) (by simp)
    show 47 :: (stl s ++ wordS (q :: l)) = 47 :: (stl s ++ 47 :: joinN 47 ((q :: l).map stl))
    rw [this]
theorem stl_free {l : List Stp} (h : ∀ c, Stp.L c ∈ l → c ≠ 47) : ∀ p ∈ l.map stl, 47 ∉ p := fun p hp => by
  obtain ⟨s, hs, rfl⟩ := List.mem_map.mp hp
  cases s with
  | L c => simp only [stl, List.mem_singleton]; exact fun e => h c hs e.symm
  | U => decide
  | D => decide
theorem npK_ok {w : World} {c : Nat} {l : List Stp} (hl : 1 ≤ l.length ∧ l.length ≤ 3) (h : ∀ d, Stp.L d ∈ Stp.L c :: l → d ≠ 46 ∧ d ≠ 47) : Oks w (npK c l) := by
  refine .cons (fun _ _ => sne_is (by simpa using (h c (.head _)).2)) (.cons (fun _ _ => ?_) (oks_mem fun d hd => (h d hd).1))
  rw [wordS_join _ (by simp)]
  have len : ∀ s, (stl s).length ≤ 2 := fun s => by cases s <;> simp [stl]
  refine kSpl_ok (by simp; omega) (stl_free fun d hd => (h d hd).2) ?_ (by simp; exact Nat.le_trans (show l.length + 1 ≤ 4 by omega) (by decide))
  have jl : ∀ L : List Stp, (joinN 47 (L.map stl)).length ≤ 3 * L.length := fun L => by
    induction L with
    | nil => simp [joinN]
    | cons s L ih =>
      have := len s
      cases L with
      | nil => simp [joinN]; omega
      | cons q L =>
        show (stl s ++ 47 :: joinN 47 ((q :: L).map stl)).length ≤ _
        simp only [List.length_append, List.length_cons] at ih ⊢
        omega
  exact Nat.le_trans (jl _) (Nat.le_trans (show 3 * (Stp.L c :: l).length ≤ 12 by simp; omega) (by decide))
inductive Way4 : List Stp → Prop
  | z (x y : Nat) : Way4 [.L x, .L y]
  | o (x y : Nat) (s : Stp) : Way4 [.L x, .L y, s]
  | t (x y : Nat) (s r : Stp) : Way4 [.L x, .L y, s, r]
theorem kNp_ok {w : World} {b c : Bool} {t : Tok} {l : List Stp} (hw : Way4 l) (h : ∀ d, Stp.L d ∈ l → d ≠ 46 ∧ d ≠ 47) : Cut.Ok (VW (wF w b c)) (kNp l t) := by
  match l, hw, h with
  | [.L x, .L y], _, h => exact spec_run (fun ρ τ => np_run w b c ρ τ x y t) (npK_ok (by simp) h) fun ρ τ => ⟨[], [τ 44], rfl, rfl, rfl, rfl⟩
  | [.L x, .L y, .L d0], _, h => exact spec_run (fun ρ τ => npL_run w b c ρ τ x y t d0) (npK_ok (by simp) h) fun ρ τ => ⟨[], [τ 48], rfl, rfl, rfl, rfl⟩
  | [.L x, .L y, .U], _, h => exact spec_run (fun ρ τ => npU_run w b c ρ τ x y t) (npK_ok (by simp) h) fun ρ τ => ⟨[], [τ 55], rfl, rfl, rfl, rfl⟩
  | [.L x, .L y, .D], _, h => exact spec_run (fun ρ τ => npD_run w b c ρ τ x y t) (npK_ok (by simp) h) fun ρ τ => ⟨[], [τ 48], rfl, rfl, rfl, rfl⟩
  | [.L x, .L y, .L d0, .L d1], _, h => exact spec_run (fun ρ τ => npLL_run w b c ρ τ x y t d0 d1) (npK_ok (by simp) h) fun ρ τ => ⟨[], [τ 52], rfl, rfl, rfl, rfl⟩
  | [.L x, .L y, .L d0, .U], _, h => exact spec_run (fun ρ τ => npLU_run w b c ρ τ x y t d0) (npK_ok (by simp) h) fun ρ τ => ⟨[], [τ 60], rfl, rfl, rfl, rfl⟩
  | [.L x, .L y, .L d0, .D], _, h => exact spec_run (fun ρ τ => npLD_run w b c ρ τ x y t d0) (npK_ok (by simp) h) fun ρ τ => ⟨[], [τ 52], rfl, rfl, rfl, rfl⟩
  | [.L x, .L y, .U, .L d1], _, h => exact spec_run (fun ρ τ => npUL_run w b c ρ τ x y t d1) (npK_ok (by simp) h) fun ρ τ => ⟨[], [τ 60], rfl, rfl, rfl, rfl⟩
  | [.L x, .L y, .U, .U], _, h => exact spec_run (fun ρ τ => npUU_run w b c ρ τ x y t) (npK_ok (by simp) h) fun ρ τ => ⟨[], [τ 18], rfl, rfl, rfl, rfl⟩
  | [.L x, .L y, .U, .D], _, h => exact spec_run (fun ρ τ => npUD_run w b c ρ τ x y t) (npK_ok (by simp) h) fun ρ τ => ⟨[], [τ 59], rfl, rfl, rfl, rfl⟩
  | [.L x, .L y, .D, .L d1], _, h => exact spec_run (fun ρ τ => npDL_run w b c ρ τ x y t d1) (npK_ok (by simp) h) fun ρ τ => ⟨[], [τ 52], rfl, rfl, rfl, rfl⟩
  | [.L x, .L y, .D, .U], _, h => exact spec_run (fun ρ τ => npDU_run w b c ρ τ x y t) (npK_ok (by simp) h) fun ρ τ => ⟨[], [τ 59], rfl, rfl, rfl, rfl⟩
  | [.L x, .L y, .D, .D], _, h => exact spec_run (fun ρ τ => npDD_run w b c ρ τ x y t) (npK_ok (by simp) h) fun ρ τ => ⟨[], [τ 52], rfl, rfl, rfl, rfl⟩
end Mine
end
section
open PySem PySem.W PySem.W.X PyProof.Rows
set_option Elab.async false
set_option maxRecDepth 100000
namespace Mine
section
variable (w : World) (b c : Bool) (ρ : Nat → Addr) (τ : Nat → Tok) (q : Addr) (n : Nat) (x y : Nat) (tx ty : Tok)
theorem lr_run : Both (runOf (wF w b c) ρ τ 500 (lrZ q n [(.L x, tx), (.L y, ty)]) lr_h (lrL [(.L x, tx), (.L y, ty)] 3) (lr_e (wF w b c)) 8 (.call (.ref 926) ⟨[.ref q], []⟩) [(q, listN (stV [(.L x, tx), (.L y, ty)]) n)]) := by cases b <;> exact both_of (by kernel_rfl)
theorem lrL_run (d0 : Nat) (t0 : Tok) : Both (runOf (wF w b c) ρ τ 500 (lrZ q n [(.L x, tx), (.L y, ty), (.L d0, t0)]) lrL_h (lrL [(.L x, tx), (.L y, ty), (.L d0, t0)] 3) (lrL_e (wF w b c)) 8 (.call (.ref 926) ⟨[.ref q], []⟩) [(q, listN (stV [(.L x, tx), (.L y, ty), (.L d0, t0)]) n)]) := by cases b <;> exact both_of (by kernel_rfl)
theorem lrU_run (t0 : Tok) : Both (runOf (wF w b c) ρ τ 500 (lrZ q n [(.L x, tx), (.L y, ty), (.U, t0)]) lrU_h (lrL [(.L x, tx), (.L y, ty), (.U, t0)] 3) (lrU_e (wF w b c)) 8 (.call (.ref 926) ⟨[.ref q], []⟩) [(q, listN (stV [(.L x, tx), (.L y, ty), (.U, t0)]) n)]) := by cases b <;> exact both_of (by kernel_rfl)
theorem lrD_run (t0 : Tok) : Both (runOf (wF w b c) ρ τ 500 (lrZ q n [(.L x, tx), (.L y, ty), (.D, t0)]) lrD_h (lrL [(.L x, tx), (.L y, ty), (.D, t0)] 3) (lrD_e (wF w b c)) 8 (.call (.ref 926) ⟨[.ref q], []⟩) [(q, listN (stV [(.L x, tx), (.L y, ty), (.D, t0)]) n)]) := by cases b <;> exact both_of (by kernel_rfl)
theorem lrLL_run (d0 d1 : Nat) (t0 t1 : Tok) : Both (runOf (wF w b c) ρ τ 500 (lrZ q n [(.L x, tx), (.L y, ty), (.L d0, t0), (.L d1, t1)]) lrLL_h (lrL [(.L x, tx), (.L y, ty), (.L d0, t0), (.L d1, t1)] 3) (lrLL_e (wF w b c)) 8 (.call (.ref 926) ⟨[.ref q], []⟩) [(q, listN (stV [(.L x, tx), (.L y, ty), (.L d0, t0), (.L d1, t1)]) n)]) := by cases b <;> exact both_of (by kernel_rfl)
theorem lrLU_run (d0 : Nat) (t0 t1 : Tok) : Both (runOf (wF w b c) ρ τ 500 (lrZ q n [(.L x, tx), (.L y, ty), (.L d0, t0), (.U, t1)]) lrLU_h (lrL [(.L x, tx), (.L y, ty), (.L d0, t0), (.U, t1)] 3) (lrLU_e (wF w b c)) 8 (.call (.ref 926) ⟨[.ref q], []⟩) [(q, listN (stV [(.L x, tx), (.L y, ty), (.L d0, t0), (.U, t1)]) n)]) := by cases b <;> exact both_of (by kernel_rfl)
theorem lrLD_run (d0 : Nat) (t0 t1 : Tok) : Both (runOf (wF w b c) ρ τ 500 (lrZ q n [(.L x, tx), (.L y, ty), (.L d0, t0), (.D, t1)]) lrLD_h (lrL [(.L x, tx), (.L y, ty), (.L d0, t0), (.D, t1)] 3) (lrLD_e (wF w b c)) 8 (.call (.ref 926) ⟨[.ref q], []⟩) [(q, listN (stV [(.L x, tx), (.L y, ty), (.L d0, t0), (.D, t1)]) n)]) := by cases b <;> exact both_of (by kernel_rfl)
theorem lrUL_run (d1 : Nat) (t0 t1 : Tok) : Both (runOf (wF w b c) ρ τ 500 (lrZ q n [(.L x, tx), (.L y, ty), (.U, t0), (.L d1, t1)]) lrUL_h (lrL [(.L x, tx), (.L y, ty), (.U, t0), (.L d1, t1)] 3) (lrUL_e (wF w b c)) 8 (.call (.ref 926) ⟨[.ref q], []⟩) [(q, listN (stV [(.L x, tx), (.L y, ty), (.U, t0), (.L d1, t1)]) n)]) := by cases b <;> exact both_of (by kernel_rfl)
theorem lrUU_run (t0 t1 : Tok) : Both (runOf (wF w b c) ρ τ 500 (lrZ q n [(.L x, tx), (.L y, ty), (.U, t0), (.U, t1)]) lrUU_h (lrL [(.L x, tx), (.L y, ty), (.U, t0), (.U, t1)] 3) (lrUU_e (wF w b c)) 8 (.call (.ref 926) ⟨[.ref q], []⟩) [(q, listN (stV [(.L x, tx), (.L y, ty), (.U, t0), (.U, t1)]) n)]) := by cases b <;> exact both_of (by kernel_rfl)
theorem lrUD_run (t0 t1 : Tok) : Both (runOf (wF w b c) ρ τ 500 (lrZ q n [(.L x, tx), (.L y, ty), (.U, t0), (.D, t1)]) lrUD_h (lrL [(.L x, tx), (.L y, ty), (.U, t0), (.D, t1)] 3) (lrUD_e (wF w b c)) 8 (.call (.ref 926) ⟨[.ref q], []⟩) [(q, listN (stV [(.L x, tx), (.L y, ty), (.U, t0), (.D, t1)]) n)]) := by cases b <;> exact both_of (by kernel_rfl)
theorem lrDL_run (d1 : Nat) (t0 t1 : Tok) : Both (runOf (wF w b c) ρ τ 500 (lrZ q n [(.L x, tx), (.L y, ty), (.D, t0), (.L d1, t1)]) lrDL_h (lrL [(.L x, tx), (.L y, ty), (.D, t0), (.L d1, t1)] 3) (lrDL_e (wF w b c)) 8 (.call (.ref 926) ⟨[.ref q], []⟩) [(q, listN (stV [(.L x, tx), (.L y, ty), (.D, t0), (.L d1, t1)]) n)]) := by cases b <;> exact both_of (by kernel_rfl)
theorem lrDU_run (t0 t1 : Tok) : Both (runOf (wF w b c) ρ τ 500 (lrZ q n [(.L x, tx), (.L y, ty), (.D, t0), (.U, t1)]) lrDU_h (lrL [(.L x, tx), (.L y, ty), (.D, t0), (.U, t1)] 3) (lrDU_e (wF w b c)) 8 (.call (.ref 926) ⟨[.ref q], []⟩) [(q, listN (stV [(.L x, tx), (.L y, ty), (.D, t0), (.U, t1)]) n)]) := by cases b <;> exact both_of (by kernel_rfl)
theorem lrDD_run (t0 t1 : Tok) : Both (runOf (wF w b c) ρ τ 500 (lrZ q n [(.L x, tx), (.L y, ty), (.D, t0), (.D, t1)]) lrDD_h (lrL [(.L x, tx), (.L y, ty), (.D, t0), (.D, t1)] 3) (lrDD_e (wF w b c)) 8 (.call (.ref 926) ⟨[.ref q], []⟩) [(q, listN (stV [(.L x, tx), (.L y, ty), (.D, t0), (.D, t1)]) n)]) := by cases b <;> exact both_of (by kernel_rfl)
end
theorem lrL_ok {w : World} : ∀ (l : List (Stp × Tok)) (j : Nat), (∀ p ∈ l, ∀ d, p.1 = .L d → d ≠ 46) → Oks w (lrL l j)
  | [], _, _ => Oks.nil
  | (.L c, t) :: l, j, h => .cons (fun _ _ => seq_is (by simp)) (.cons (fun _ _ => sne_is (by simpa using h _ (.head _) c rfl)) (lrL_ok l _ fun p hp => h p (.tail _ hp)))
  | (.D, _) :: l, j, h => lrL_ok l _ fun p hp => h p (.tail _ hp)
  | (.U, _) :: l, j, h => lrL_ok l _ fun p hp => h p (.tail _ hp)
theorem kLr_ok {w : World} {b c : Bool} {q : Addr} {n : Nat} {l : List (Stp × Tok)} (hw : Way4 (l.map (·.1))) (h : ∀ p ∈ l, ∀ d, p.1 = .L d → d ≠ 46) : Cut.Ok (VW (wF w b c)) (kLr q n l) := by
  have go : ∀ {l : List (Stp × Tok)} {hs es}, (∀ p ∈ l, ∀ d, p.1 = .L d → d ≠ 46) → (∀ ρ τ, Both (runOf (wF w b c) ρ τ 500 (lrZ q n l) hs (lrL l 3) es 8 (.call (.ref 926) ⟨[.ref q], []⟩) [(q, listN (stV l) n)])) → Cut.Ok (VW (wF w b c)) (kLr q n l) :=
    fun h H => spec_run H (lrL_ok _ _ h) fun ρ τ => ⟨[_], [], rfl, rfl, rfl, rfl⟩
  match l, hw, h with
  | [(.L x, tx), (.L y, ty)], _, h => exact go h fun ρ τ => lr_run w b c ρ τ q n x y tx ty  
  | [(.L x, tx), (.L y, ty), (.L d0, t0)], _, h => exact go h fun ρ τ => lrL_run w b c ρ τ q n x y tx ty d0 t0
  | [(.L x, tx), (.L y, ty), (.U, t0)], _, h => exact go h fun ρ τ => lrU_run w b c ρ τ q n x y tx ty  t0
  | [(.L x, tx), (.L y, ty), (.D, t0)], _, h => exact go h fun ρ τ => lrD_run w b c ρ τ q n x y tx ty  t0
  | [(.L x, tx), (.L y, ty), (.L d0, t0), (.L d1, t1)], _, h => exact go h fun ρ τ => lrLL_run w b c ρ τ q n x y tx ty d0 d1 t0 t1
  | [(.L x, tx), (.L y, ty), (.L d0, t0), (.U, t1)], _, h => exact go h fun ρ τ => lrLU_run w b c ρ τ q n x y tx ty d0 t0 t1
  | [(.L x, tx), (.L y, ty), (.L d0, t0), (.D, t1)], _, h => exact go h fun ρ τ => lrLD_run w b c ρ τ q n x y tx ty d0 t0 t1
  | [(.L x, tx), (.L y, ty), (.U, t0), (.L d1, t1)], _, h => exact go h fun ρ τ => lrUL_run w b c ρ τ q n x y tx ty d1 t0 t1
  | [(.L x, tx), (.L y, ty), (.U, t0), (.U, t1)], _, h => exact go h fun ρ τ => lrUU_run w b c ρ τ q n x y tx ty  t0 t1
  | [(.L x, tx), (.L y, ty), (.U, t0), (.D, t1)], _, h => exact go h fun ρ τ => lrUD_run w b c ρ τ q n x y tx ty  t0 t1
  | [(.L x, tx), (.L y, ty), (.D, t0), (.L d1, t1)], _, h => exact go h fun ρ τ => lrDL_run w b c ρ τ q n x y tx ty d1 t0 t1
  | [(.L x, tx), (.L y, ty), (.D, t0), (.U, t1)], _, h => exact go h fun ρ τ => lrDU_run w b c ρ τ q n x y tx ty  t0 t1
  | [(.L x, tx), (.L y, ty), (.D, t0), (.D, t1)], _, h => exact go h fun ρ τ => lrDD_run w b c ρ τ q n x y tx ty  t0 t1
end Mine
end
section
open PySem PySem.W PySem.W.X PyProof.Rows
set_option Elab.async false
set_option maxRecDepth 100000
set_option linter.unusedVariables false
namespace Mine
noncomputable def Le {α : Type} (M : Model) (Γ : Ctx) (m m' : Sem α) : Prop := ∀ Q E p s, Sem.wp M Γ m' Q E p s → Sem.wp M Γ m Q E p s
section
variable {M : Model} {Γ : Ctx} {α β : Type}
theorem Le.rfl {m : Sem α} : Le M Γ m m := fun _ _ _ _ h => h
theorem Le.bind {m m' : Sem α} {f f' : α → Sem β} (h : Le M Γ m m') (k : ∀ a, Le M Γ (f a) (f' a)) : Le M Γ (m >>= f) (m' >>= f') := fun Q E p s x => by
  rw [Sem.wp_bind'] at x ⊢
  exact h _ _ _ _ (Sem.wp_mono M Γ m' (fun a p' s' y => k a _ _ _ _ y) (fun _ _ _ y => y) p s x)
theorem Le.next {m : Sem α} {f f' : α → Sem β} (k : ∀ a, Le M Γ (f a) (f' a)) : Le M Γ (m >>= f) (m >>= f') := .bind .rfl k
theorem Le.hold {vs : List Value} {m m' : Sem α} (h : Le M Γ m m') : Le M Γ (holding vs m) (holding vs m') := fun Q E p s x => by
  rw [Sem.wp_holding] at x ⊢
  exact h _ _ _ _ x
theorem Le.oper {vs : List Value} {m m' : Sem Value} (h : Le M Γ m m') : Le M Γ (operate vs m) (operate vs m') := fun Q E p s x => by
  rw [Sem.wp_operate] at x ⊢
  exact h _ _ _ _ x
theorem Le.raise {m m' : Sem α} {k : Value → Sem Unit} (h : Le M Γ m m') : Le M Γ (m.onRaise k) (m'.onRaise k) := fun Q E p s x => by
  rw [Sem.wp_onRaise] at x ⊢
  exact h _ _ _ _ x
theorem Le.room {what : String} {vs : List Value} {k : Unit → Sem α} (hu : Γ.units < cLine) : Le M Γ (Sem.bind (cRoomFor what vs) k) (k ()) := fun Q E p s x => by
  show Sem.wp M Γ (cRoomFor what vs >>= k) Q E p s
  rw [Sem.wp_bind']
  exact Sem.wp_cRoomFor what vs hu x
end
noncomputable def rcK : { k : CmpOp → Value → Value → Unit → Sem Value // PySem.W.Fast.tw9423741818375054981 = fun op a b => PySem.W.Fast.tw17359229931016689406 [a, b] (PySem.W.R.bindR (PySem.W.Fast.tw13383273872528276517 PySem.W.SL.s11780134324901847377x10 [a, b]) (k op a b)) } := ⟨_, rfl⟩
noncomputable def rcN (op : CmpOp) (a b : Value) : Sem Value := PySem.W.Fast.tw17359229931016689406 [a, b] (rcK.1 op a b ())
theorem rc_le {M : Model} {Γ : Ctx} (hu : Γ.units < cLine) (op : CmpOp) (a b : Value) : Le M Γ (richCompare op a b) (rcN op a b) := by
  have e : richCompare op a b = holding [a, b] (Sem.bind (cRoomFor PySem.W.SL.s11780134324901847377x10 [a, b]) (rcK.1 op a b)) := by
    refine (congrFun (congrFun (congrFun PySem.W.Fast.te9423741818375054981 op) a) b).trans ((congrFun (congrFun (congrFun rcK.2 op) a) b).trans ?_)
    show PySem.W.Fast.tw17359229931016689406 [a, b] (PySem.W.R.bindR (PySem.W.Fast.tw13383273872528276517 PySem.W.SL.s11780134324901847377x10 [a, b]) (rcK.1 op a b)) = _
    generalize rcK.1 op a b = k
    rw [← PySem.W.Fast.te17359229931016689406, ← PySem.W.Fast.te13383273872528276517, ← PySem.W.R.bindR_eq]
  have e' : rcN op a b = holding [a, b] (rcK.1 op a b ()) := by
    unfold rcN
    generalize rcK.1 op a b () = k
    rw [← PySem.W.Fast.te17359229931016689406]
  rw [e, e']
  exact .hold (.room hu)
theorem units_lt {n : Nat} {A : Around} {Γ : Ctx} (hF : Fit n A) (hΓ : Γ.Below A) (hc : Γ.code.cUnits ≤ 10) : Γ.units < cLine := by
  have h1 := hF.units
  have h2 : unitsOf Γ.below ≤ A.units := hΓ.2.2.2.2
  show Γ.code.cUnits + unitsOf Γ.below < _
  omega
theorem SpecX.le {V : SV} {fr : Option (List Env)} {need : Nat} {c : Code} {m m' : Sem Flow} {pre : Dyn} {P : Result → Dyn → Prop} (hc : c.cUnits ≤ 10) (l : ∀ Γ : Ctx, Γ.units < cLine → Le (model V.prog V.w) Γ m m') (h : SpecX V fr need c m' pre P) : SpecX V fr need c m pre P := by
  intro A s R hA hF hS ht hR Γ p e hΓ
  exact l Γ (units_lt hA hΓ (by rw [e]; exact hc)) _ _ _ _ (h A s R hA hF hS ht hR Γ p e hΓ)
theorem spec_le {w : World} {fr : Option (List Env)} {need n : Nat} {c : Code} {t : Sem Fin} {pre : Dyn} {z : Of Fini} {hs : List Nat} {ks : List (Of Cut)} {es : List (Of Ent)} {P : Result → Dyn → Prop} (hc : c.cUnits ≤ 10) (l : ∀ Γ : Ctx, Γ.units < cLine → Le (model pw w) Γ (denote table c) t)
    (H : ∀ ρ τ, Both (sim (VW w) fr ρ τ z n hs ks es need .base c t pre 0 0 [] [])) (hk : ∀ k ∈ ks, ∀ ρ τ, Cut.Ok (VW w) (k ρ τ))
    (hP : ∀ ρ τ, match (z ρ τ).out with
      | .inl r => P r (z ρ τ).picks
      | .inr c' => Spec (VW w) fr need c' (z ρ τ).picks P) : Spec (VW w) fr need c pre P := by
  intro A s R hA hF hS ht hR
  obtain ⟨h, g, d, tk, os⟩ := s
  have ends : Ends (VW w) A R (pre.map (·.1)) h g d os z := by
    intro ρ τ h' tk' G ht'
    have p := hP ρ τ
    cases e : (z ρ τ).out with
    | inl r =>
      rw [e] at p
      exact hR r _ h' tk' p G ht'
    | inr c' =>
      rw [e] at p
      intro _
      have perm : ((z ρ τ).picks).Perm ((z ρ τ).picks ++ []) := by rw [List.append_nil]
      exact p A ⟨h', g, d, tk', os⟩ R hA hF (G.shows perm) ht' fun r L h'' tk'' hp C' => hR r L h'' tk'' hp (G.cut perm C').app0
  have m := sim_sound (VW_ok w) hF ends n hs ks es need .base c t pre 0 0 [] [] (fun _ => 0) (fun _ => 0) h tk rfl hA (Got.start hS) ht hk fun ρ τ _ _ => H ρ τ
  have m' : wpOwn (model pw w) A c t (postC pw w A R) (postE R) ⟨h, g, d, tk, os⟩ := m
  refine y_code _ _ _ _ _ _ fun Γ p e hΓ => ?_
  exact l Γ (units_lt hA hΓ (by rw [e]; exact hc)) _ _ _ _ (m' Γ p e hΓ)
noncomputable def ifS (X : Value → Value → Sem Value) (l r : Expr) (p : Pos) (body orelse : List Stmt) (pos : Pos) (env : Env) : Sem Flow :=
  standAt pos >>= fun _ => (eval l env >>= fun a => holding [a] (eval r env) >>= fun b => standAt p >>= fun _ => operate [a, b] (X a b) >>= fun c => holding [c] (truthy c)) >>= fun t => if t then execs body env else execs orelse env
theorem if_cmp {l r : Expr} {op : CmpOp} {p pos : Pos} {body orelse : List Stmt} {env : Env} (hm : lastMarks [op] [r] = false) : exec (.If (.Compare l [op] [r] p) body orelse pos) env = ifS (compareOp op) l r p body orelse pos env := by
  have e : exec (.If (.Compare l [op] [r] p) body orelse pos) env = standAt pos >>= fun _ => (eval l env >>= fun a => testChain p a [op] (markedEach [op] [r] [eval r env])) >>= fun t => if t then execs body env else execs orelse env := rfl
  rw [e, markedEach_of_false _ _ _ hm]
  rfl
theorem if_le {M : Model} {Γ : Ctx} (hu : Γ.units < cLine) {l r : Expr} {p pos : Pos} {body orelse : List Stmt} {env : Env} (hm : lastMarks [.NotEq] [r] = false) : Le M Γ (exec (.If (.Compare l [.NotEq] [r] p) body orelse pos) env) (ifS (rcN .NotEq) l r p body orelse pos env) := by
  rw [if_cmp hm]
  exact .next fun _ => .bind (.next fun a => .next fun b => .next fun _ => .bind (.oper (rc_le hu _ _ _)) fun _ => .rfl) fun _ => .rfl
noncomputable def seqS (m r : Sem Flow) : Sem Flow := m >>= fun f => match f with
  | .next => r
  | .brk => pure .brk
  | .cont => pure .cont
  | .ret v => pure (.ret v)
theorem execs_le {M : Model} {Γ : Ctx} {env : Env} {xs ys : List Stmt} {x : Stmt} {m r : Sem Flow} (h : Le M Γ (exec x env) m) (hr : Le M Γ (execs ys env) r) : Le M Γ (execs (xs ++ x :: ys) env) (seqS (execs xs env) (seqS m r)) := by
  rw [execs_append]
  refine .next fun f => ?_
  cases f with
  | next => exact .bind h fun f => by cases f <;> first | exact hr | exact .rfl
  | _ => exact .rfl
noncomputable def forS (B : Sem Flow) (target : Expr) (it : Value) (body orelse : List Stmt) (env : Env) : Sem Fin :=
  (standAt target.pos >>= fun _ => (pyNext it).onRaise (fun _ => standAt { target.pos with line := 0 }) >>= fun o => match o with
  | none => again (.block orelse env)
  | some v => letOwnedTupleGo target it v >>= fun _ => assign target env v >>= fun _ => B >>= fun f => match f with
    | .next => again (.forLoop target it body orelse env)
    | .cont => again (.forLoop target it body orelse env)
    | .brk => pure (.done .next)
    | .ret v => pure (.done (.ret v))).onRaise (fun x => do noteFrame x env; theTreesLotGoes x)
theorem for_le {M : Model} {Γ : Ctx} {target : Expr} {it : Value} {body orelse : List Stmt} {env : Env} {B : Sem Flow} (h : Le M Γ (execs body env) B) : Le M Γ (denote table (.forLoop target it body orelse env)) (forS B target it body orelse env) := by
  have e : denote table (.forLoop target it body orelse env) = forS (execs body env) target it body orelse env := rfl
  rw [e]
  refine .raise (.next fun _ => .next fun o => ?_)
  cases o with
  | none => exact .rfl
  | some v => exact .next fun _ => .next fun _ => .bind h fun _ => .rfl
end Mine
end
section
open PySem PySem.W PySem.W.X PyProof.Rows
set_option Elab.async false
set_option maxRecDepth 100000
set_option linter.unusedVariables false
namespace Mine
noncomputable def evF : Expr → Env → Sem Value := PySem.W.Fast.tw14044960220447912780
noncomputable def holdF {α : Type} : List Value → Sem α → Sem α := PySem.W.Fast.tw17359229931016689406
noncomputable def operF : List Value → Sem Value → Sem Value := PySem.W.Fast.tw8004119333741010377
noncomputable def truF : Value → Sem Bool := PySem.W.Fast.tw15245631507167962100
noncomputable def cmpF : CmpOp → Value → Value → Sem Value := PySem.W.Fast.tw12886488535604756494
noncomputable def asnF : Expr → Env → Value → Sem Unit := PySem.W.Fast.tw17772580674575903948
noncomputable def nxtF : Value → Sem (Option Value) := PySem.W.Fast.tw9404975358583537561
noncomputable def ltgF : Expr → Value → Value → Sem Unit := PySem.W.Fast.tw1578499551869305889
noncomputable def agF : Code → Sem Fin := PySem.W.Fast.tw12377390311714414960
theorem evF_eq : eval = evF := PySem.W.Fast.te14044960220447912780
theorem holdF_eq : @holding = @holdF := PySem.W.Fast.te17359229931016689406
theorem operF_eq : operate = operF := PySem.W.Fast.te8004119333741010377
theorem truF_eq : truthy = truF := PySem.W.Fast.te15245631507167962100
theorem cmpF_eq : compareOp = cmpF := PySem.W.Fast.te12886488535604756494
theorem asnF_eq : assign = asnF := PySem.W.Fast.te17772580674575903948
theorem nxtF_eq : pyNext = nxtF := PySem.W.Fast.te9404975358583537561
theorem ltgF_eq : letOwnedTupleGo = ltgF := PySem.W.Fast.te1578499551869305889
theorem agF_eq : again = agF := PySem.W.Fast.te12377390311714414960
theorem bnd_eq {α β : Type} (m : Sem α) (f : α → Sem β) : m >>= f = PySem.W.R.bindR m f := by
  show Sem.bind m f = _
  rw [PySem.W.R.bindR_eq]
noncomputable def cpL : Expr → Expr
  | .Compare l _ _ _ => l
  | e => e
noncomputable def cpR : Expr → Expr
  | .Compare _ _ (r :: _) _ => r
  | e => e
noncomputable def cpP : Expr → Pos
  | .Compare _ _ _ p => p
  | _ => ⟨0, 0, 0, 0⟩
noncomputable def ifTs : Stmt → Expr
  | .If t _ _ _ => t
  | _ => .Constant .none 0 ⟨0, 0, 0, 0⟩
noncomputable def ifPs : Stmt → Pos
  | .If _ _ _ p => p
  | _ => ⟨0, 0, 0, 0⟩
noncomputable def ifNF (s : Stmt) (env : Env) : Sem Flow :=
  R.bindR (standAt (ifPs s)) fun _ => R.bindR (R.bindR (evF (cpL (ifTs s)) env) fun a => R.bindR (holdF [a] (evF (cpR (ifTs s)) env)) fun b => R.bindR (standAt (cpP (ifTs s))) fun _ => R.bindR (operF [a, b] (rcN .NotEq a b)) fun c => holdF [c] (truF c)) fun t => match t with
    | true => exF (ifB s) env
    | false => exF (ifE s) env
noncomputable def isNe (s : Stmt) : Prop := s = .If (.Compare (cpL (ifTs s)) [.NotEq] [cpR (ifTs s)] (cpP (ifTs s))) (ifB s) (ifE s) (ifPs s) ∧ lastMarks [.NotEq] [cpR (ifTs s)] = false
theorem ifNF_le {M : Model} {Γ : Ctx} (hu : Γ.units < cLine) {s : Stmt} {env : Env} (h : isNe s) : Le M Γ (exec s env) (ifNF s env) := by
  obtain ⟨h1, h2⟩ := h
  have a := if_le (M := M) hu (l := cpL (ifTs s)) (p := cpP (ifTs s)) (pos := ifPs s) (body := ifB s) (orelse := ifE s) (env := env) h2
  rw [← h1] at a
  have e : ifS (rcN .NotEq) (cpL (ifTs s)) (cpR (ifTs s)) (cpP (ifTs s)) (ifB s) (ifE s) (ifPs s) env = ifNF s env := by
    unfold ifS ifNF
    rw [evF_eq, holdF_eq, operF_eq, truF_eq, exF_eq]
    simp only [bnd_eq]
    congr 1
    funext _
    congr 1
    funext t
    cases t <;> rfl
  rw [e] at a
  exact a
noncomputable def seqF (m r : Sem Flow) : Sem Flow := R.bindR m fun f => match f with
  | .next => r
  | .brk => Sem.pure .brk
  | .cont => Sem.pure .cont
  | .ret v => Sem.pure (.ret v)
theorem seqF_eq (m r : Sem Flow) : seqS m r = seqF m r := by
  unfold seqS seqF
  rw [bnd_eq]
  congr 1
theorem execsF_le {M : Model} {Γ : Ctx} {env : Env} (xs ys : List Stmt) {x : Stmt} {m r : Sem Flow} (h : Le M Γ (exec x env) m) (hr : Le M Γ (execs ys env) r) : Le M Γ (execs (xs ++ x :: ys) env) (seqF (exF xs env) (seqF m r)) := by
  have a := execs_le (xs := xs) h hr
  rw [seqF_eq, seqF_eq] at a
  rw [exF_eq] at a ⊢
  exact a
noncomputable def forF (B : Sem Flow) (target : Expr) (it : Value) (body orelse : List Stmt) (env : Env) : Sem Fin :=
  R.onRaiseR (R.bindR (standAt target.pos) fun _ => R.bindR (R.onRaiseR (nxtF it) (fun _ => standAt { target.pos with line := 0 })) fun o => match o with
  | none => agF (.block orelse env)
  | some v => R.bindR (ltgF target it v) fun _ => R.bindR (asnF target env v) fun _ => R.bindR B fun f => match f with
    | .next => agF (.forLoop target it body orelse env)
    | .cont => agF (.forLoop target it body orelse env)
    | .brk => Sem.pure (.done .next)
    | .ret v => Sem.pure (.done (.ret v))) (fun x => do noteFrame x env; theTreesLotGoes x)
theorem forF_eq (B : Sem Flow) (target : Expr) (it : Value) (body orelse : List Stmt) (env : Env) : forS B target it body orelse env = forF B target it body orelse env := by
  unfold forS forF
  rw [PySem.W.R.onRaiseR_eq, nxtF_eq, ltgF_eq, asnF_eq, agF_eq, bnd_eq]
  congr 1
  congr 1
  funext _
  rw [bnd_eq]
  congr 1
  funext o
  cases o with
  | none => rfl
  | some v =>
    show (_ >>= _) = _
    rw [bnd_eq]
    congr 1
    funext _
    rw [bnd_eq]
    congr 1
    funext _
    rw [bnd_eq]
    rfl
theorem forF_le {M : Model} {Γ : Ctx} {target : Expr} {it : Value} {body orelse : List Stmt} {env : Env} {B : Sem Flow} (h : Le M Γ (execs body env) B) : Le M Γ (denote table (.forLoop target it body orelse env)) (forF B target it body orelse env) := by
  rw [← forF_eq]
  exact for_le h
noncomputable def andE : Expr → Nat → Expr
  | .BoolOp _ l _, n => l.getD n (.Constant .none 0 ⟨0, 0, 0, 0⟩)
  | e, _ => e
noncomputable def andP : Expr → Pos
  | .BoolOp _ _ p => p
  | _ => ⟨0, 0, 0, 0⟩
noncomputable def retP : Stmt → Pos
  | .Return _ p => p
  | _ => ⟨0, 0, 0, 0⟩
noncomputable def bckS (X : Value → Value → Sem Value) (g l m q : Expr) (p2 p1 bp pos : Pos) (env : Env) : Sem Flow :=
  standAt pos >>= fun _ => (eval g env >>= fun v => standAt bp >>= fun _ => holding [v] (truthy v) >>= fun t => if t then (eval l env >>= fun a => holding [a] (eval m env >>= fun c => holding [c] (eval q env) >>= fun d => standAt p2 >>= fun _ => operate [c, d] (X c d)) >>= fun b => standAt p1 >>= fun _ => operate [a, b] (compareOp .Eq a b)) else pure v) >>= fun v => pure (.ret v)
theorem ret_cmp {g l m q : Expr} {p2 p1 bp pos : Pos} {env : Env} (h1 : lastMarks [.Eq] [.Compare m [.Eq] [q] p2] = false) (h2 : lastMarks [.Eq] [q] = false) :
    exec (.Return (some (.BoolOp .And [g, .Compare l [.Eq] [.Compare m [.Eq] [q] p2] p1] bp)) pos) env = bckS (richCompare .Eq) g l m q p2 p1 bp pos env := by
  have e : exec (.Return (some (.BoolOp .And [g, .Compare l [.Eq] [.Compare m [.Eq] [q] p2] p1] bp)) pos) env = standAt pos >>= fun _ => (boolOp bp .And [eval g env, eval l env >>= fun a => compareChain p1 a [.Eq] (markedEach [.Eq] [.Compare m [.Eq] [q] p2] [eval m env >>= fun c => compareChain p2 c [.Eq] (markedEach [.Eq] [q] [eval q env])])]) >>= fun v => pure (.ret v) := rfl
  rw [e, markedEach_of_false _ _ _ h1, markedEach_of_false _ _ _ h2]
  unfold bckS
  congr 1
  funext _
  congr 1
  show (_ >>= _) = _
  congr 1
  funext v
  congr 1
  funext _
  congr 1
  funext t
  cases t <;> rfl
theorem ret_le {M : Model} {Γ : Ctx} (hu : Γ.units < cLine) {g l m q : Expr} {p2 p1 bp pos : Pos} {env : Env} (h1 : lastMarks [.Eq] [.Compare m [.Eq] [q] p2] = false) (h2 : lastMarks [.Eq] [q] = false) :
    Le M Γ (exec (.Return (some (.BoolOp .And [g, .Compare l [.Eq] [.Compare m [.Eq] [q] p2] p1] bp)) pos) env) (bckS (rcN .Eq) g l m q p2 p1 bp pos env) := by
  rw [ret_cmp h1 h2]
  refine .next fun _ => .bind (.next fun v => .next fun _ => .next fun t => ?_) fun _ => .rfl
  cases t with
  | false => exact .rfl
  | true => exact .next fun a => .bind (.hold (.next fun c => .next fun d => .next fun _ => .oper (rc_le hu _ _ _))) fun _ => .rfl
noncomputable def retF (s : Stmt) (env : Env) : Sem Flow :=
  R.bindR (standAt (retP s)) fun _ => R.bindR (R.bindR (evF (andE (retE s) 0) env) fun v => R.bindR (standAt (andP (retE s))) fun _ => R.bindR (holdF [v] (truF v)) fun t => match t with
    | true => R.bindR (evF (cpL (andE (retE s) 1)) env) fun a => R.bindR (holdF [a] (R.bindR (evF (cpL (cpR (andE (retE s) 1))) env) fun c => R.bindR (holdF [c] (evF (cpR (cpR (andE (retE s) 1))) env)) fun d => R.bindR (standAt (cpP (cpR (andE (retE s) 1)))) fun _ => operF [c, d] (rcN .Eq c d))) fun b => R.bindR (standAt (cpP (andE (retE s) 1))) fun _ => operF [a, b] (cmpF .Eq a b)
    | false => Sem.pure v) fun v => Sem.pure (.ret v)
noncomputable def isAnd (s : Stmt) : Prop := s = .Return (some (.BoolOp .And [andE (retE s) 0, .Compare (cpL (andE (retE s) 1)) [.Eq] [.Compare (cpL (cpR (andE (retE s) 1))) [.Eq] [cpR (cpR (andE (retE s) 1))] (cpP (cpR (andE (retE s) 1)))] (cpP (andE (retE s) 1))] (andP (retE s)))) (retP s) ∧
  lastMarks [.Eq] [.Compare (cpL (cpR (andE (retE s) 1))) [.Eq] [cpR (cpR (andE (retE s) 1))] (cpP (cpR (andE (retE s) 1)))] = false ∧ lastMarks [.Eq] [cpR (cpR (andE (retE s) 1))] = false
theorem retF_eq (s : Stmt) (env : Env) : bckS (rcN .Eq) (andE (retE s) 0) (cpL (andE (retE s) 1)) (cpL (cpR (andE (retE s) 1))) (cpR (cpR (andE (retE s) 1))) (cpP (cpR (andE (retE s) 1))) (cpP (andE (retE s) 1)) (andP (retE s)) (retP s) env = retF s env := by
  unfold bckS retF
  rw [evF_eq, holdF_eq, operF_eq, truF_eq, cmpF_eq]
  simp only [bnd_eq]
  congr 1
  funext _
  congr 1
  congr 1
  funext v
  congr 1
  funext _
  congr 1
  funext t
  cases t <;> rfl
theorem retF_le {M : Model} {Γ : Ctx} (hu : Γ.units < cLine) {s : Stmt} {env : Env} (h : isAnd s) : Le M Γ (exec s env) (retF s env) := by
  obtain ⟨h1, h2, h3⟩ := h
  rw [← retF_eq]
  have a := ret_le (M := M) hu (env := env) (g := andE (retE s) 0) (l := cpL (andE (retE s) 1)) (p1 := cpP (andE (retE s) 1)) (bp := andP (retE s)) (pos := retP s) h2 h3
  rw [← h1] at a
  exact a
end Mine
end
section
open PySem PySem.W PySem.W.X PyProof.Rows PySem.Builtin PySem.Builtin.Str
set_option Elab.async false
set_option maxRecDepth 100000
set_option linter.unusedVariables false
namespace Mine
noncomputable abbrev runTr (w : World) (ρ : Nat → Addr) (τ : Nat → Tok) (n : Nat) (z : Of Fini) (hs : List Nat) (ks : List (Of Cut)) (es : List (Of Ent)) (room : Nat) (c : Code) (t : Sem Fin) (D : Dyn) : Option (List Tm × List Tm) :=
  sim (VW w) none ρ τ z n hs ks es room .base c t D 0 0 [] []
noncomputable def forTg : Stmt → Expr
  | .For t _ _ _ _ => t
  | _ => .Constant .none 0 ⟨0, 0, 0, 0⟩
noncomputable def btB (P : Params) (env : Env) : Sem Flow := seqF (exF ((bgB P).take 2) env) (seqF (ifNF (stAt (bgB P) 2) env) (exF ((bgB P).drop 3) env))
noncomputable def bgT (P : Params) (L tc it : Addr) : Sem Fin := forF (btB P (lwEnv P L tc)) (forTg (bgFor P)) (.ref it) (bgB P) [] (lwEnv P L tc)
section
variable (w : World) (b c : Bool) (ρ : Nat → Addr) (τ : Nat → Tok) (E f : Nat → Tok) (L tc it sc hn st a0 a1 ws xs ms : Addr) (x : List Nat) (tx : Tok) (bk : Value) (W0 W1 : List (Stp × Tok)) (n0 n1 : Nat) (u0 u1 : Tok) (ne : Bool)
theorem btt0_run (kv : Value) : Both (runTr (wF w b c) ρ τ 600 (btZ (PW w b c) f true L tc it sc hn st a0 a1 ws xs ms x tx bk W0 W1 n0 n1 u0 u1 (eT0 E true) 0 [] W0 ne [] [] 0 0 1 1) btt0_h (btK (PW w b c) f true L tc sc hn st ws xs ms x tx bk (eT0 E true) 0 [] a0 W0 n0 u0 ne) (btt0_e (wF w b c)) 24 (bgC (PW w b c) L tc it) (bgT (PW w b c) L tc it) (btD (PW w b c) f L it hn st a0 a1 ws xs ms W0 W1 n0 n1 u0 u1 (frR (lwEnv (PW w b c) L tc) bk (lwS (PW w b c) E true sc hn x tx st kv ws xs ms)) [] [] 0 0 0 2)) := by cases b <;> exact both_of (by kernel_rfl)
theorem btt1_run (kv : Value) (r m : Addr) (nm : Addr) (t0 : List Nat) (tt : Tok) (h : List DictEntry) : Both (runTr (wF w b c) ρ τ 600 (btZ (PW w b c) f true L tc it sc hn st a0 a1 ws xs ms x tx bk W0 W1 n0 n1 u0 u1 (fun _ => E) 1 h W1 ne [sv t0 tt] [.ref m] 1 1 2 0) btt1_h (btK (PW w b c) f true L tc sc hn st ws xs ms x tx bk (fun _ => E) 1 h a1 W1 n1 u1 ne) (btt1_e (wF w b c)) 24 (bgC (PW w b c) L tc it) (bgT (PW w b c) L tc it) (btD (PW w b c) f L it hn st a0 a1 ws xs ms W0 W1 n0 n1 u0 u1 (nmF (PW w b c) E true L tc sc hn st ws xs ms r nm x tx kv bk t0 tt h) [sv t0 tt] [.ref m] 1 1 1 1)) := by cases b <;> exact both_of (by kernel_rfl)
theorem btf0_run (kv : Value) : Both (runTr (wF w b c) ρ τ 600 (btZ (PW w b c) f false L tc it sc hn st a0 a1 ws xs ms x tx bk W0 W1 n0 n1 u0 u1 (eT0 E false) 0 [] W0 ne [] [] 0 0 1 1) btf0_h (btK (PW w b c) f false L tc sc hn st ws xs ms x tx bk (eT0 E false) 0 [] a0 W0 n0 u0 ne) (btf0_e (wF w b c)) 24 (bgC (PW w b c) L tc it) (bgT (PW w b c) L tc it) (btD (PW w b c) f L it hn st a0 a1 ws xs ms W0 W1 n0 n1 u0 u1 (frR (lwEnv (PW w b c) L tc) bk (lwS (PW w b c) E false sc hn x tx st kv ws xs ms)) [] [] 0 0 0 2)) := by cases b <;> exact both_of (by kernel_rfl)
theorem btf1_run (kv : Value) (r m : Addr) (nm : Addr) (t0 : List Nat) (tt : Tok) (h : List DictEntry) : Both (runTr (wF w b c) ρ τ 600 (btZ (PW w b c) f false L tc it sc hn st a0 a1 ws xs ms x tx bk W0 W1 n0 n1 u0 u1 (fun _ => E) 1 h W1 ne [sv t0 tt] [.ref m] 1 1 2 0) btf1_h (btK (PW w b c) f false L tc sc hn st ws xs ms x tx bk (fun _ => E) 1 h a1 W1 n1 u1 ne) (btf1_e (wF w b c)) 24 (bgC (PW w b c) L tc it) (bgT (PW w b c) L tc it) (btD (PW w b c) f L it hn st a0 a1 ws xs ms W0 W1 n0 n1 u0 u1 (nmF (PW w b c) E false L tc sc hn st ws xs ms r nm x tx kv bk t0 tt h) [sv t0 tt] [.ref m] 1 1 1 1)) := by cases b <;> exact both_of (by kernel_rfl)
theorem bte_run (F : Obj) (texts marks : List Value) (nx nm : Nat) : Both (runTr (wF w b c) ρ τ 600 (btY L xs ms F texts marks nx nm) bte_h [] (bte_e (wF w b c)) 24 (bgC (PW w b c) L tc it) (bgT (PW w b c) L tc it) (btD (PW w b c) f L it hn st a0 a1 ws xs ms W0 W1 n0 n1 u0 u1 F texts marks nx nm 2 0)) := by cases b <;> exact both_of (by kernel_rfl)
end
end Mine
end
section
open PySem PySem.W PySem.W.X PyProof.Rows PySem.Builtin PySem.Builtin.Str
set_option Elab.async false
set_option maxRecDepth 100000
set_option linter.unusedVariables false
namespace Mine
section
variable {w : World} {b c : Bool} {L tc it : Addr}
theorem bgC_eq : bgC (PW w b c) L tc it = .forLoop (forTg (bgFor (PW w b c))) (.ref it) (bgB (PW w b c)) [] (lwEnv (PW w b c) L tc) := by cases b <;> kernel_rfl
theorem bgB_eq : bgB (PW w b c) = (bgB (PW w b c)).take 2 ++ stAt (bgB (PW w b c)) 2 :: (bgB (PW w b c)).drop 3 := by cases b <;> kernel_rfl
theorem bg_ne : isNe (stAt (bgB (PW w b c)) 2) := ⟨by cases b <;> kernel_rfl, by cases b <;> kernel_rfl⟩
theorem bgT_le {w' : World} (Γ : Ctx) (hu : Γ.units < cLine) : Le (model pw w') Γ (denote table (bgC (PW w b c) L tc it)) (bgT (PW w b c) L tc it) := by
  rw [bgC_eq]
  refine forF_le ?_
  have a := execsF_le (M := model pw w') (Γ := Γ) (env := lwEnv (PW w b c) L tc) ((bgB (PW w b c)).take 2) ((bgB (PW w b c)).drop 3) (ifNF_le hu (env := lwEnv (PW w b c) L tc) (bg_ne (w := w) (b := b) (c := c))) .rfl
  rw [← bgB_eq] at a
  unfold btB
  rw [exF_eq] at a ⊢
  exact a
end
theorem rowT_map : ∀ (W : List (Stp × Tok)) (acc : List (Nat × Tok)), (rowT W acc).map (·.1) = rowS (W.map (·.1)) (acc.map (·.1))
  | [], _ => rfl
  | (.L c, t) :: l, acc => by
    show (rowT l (acc ++ [(c, t)])).map (·.1) = rowS (l.map (·.1)) (acc.map (·.1) ++ [c])
    rw [rowT_map l, List.map_append]
    rfl
  | (.U, t) :: l, acc => by
    show (rowT l acc.dropLast).map (·.1) = rowS (l.map (·.1)) (acc.map (·.1)).dropLast
    rw [rowT_map l, List.map_dropLast]
  | (.D, t) :: l, acc => rowT_map l acc
theorem rowN_is (W : List (Stp × Tok)) : (rowT W []).map (·.1) = rowN W := rowT_map W []
theorem rowS_mem {d : Nat} : ∀ (l : List Stp) (acc : List Nat), d ∈ rowS l acc → d ∈ acc ∨ Stp.L d ∈ l
  | [], _, h => .inl h
  | .L c :: l, acc, h => by
    rcases rowS_mem l _ h with h | h
    · rcases List.mem_append.mp h with h | h
      · exact .inl h
      · rw [List.mem_singleton.mp h]
        exact .inr (.head _)
    · exact .inr (.tail _ h)
  | .U :: l, acc, h => by
    rcases rowS_mem l _ h with h | h
    · exact .inl ((List.dropLast_sublist _).subset h)
    · exact .inr (.tail _ h)
  | .D :: l, acc, h => by
    rcases rowS_mem l _ h with h | h
    · exact .inl h
    · exact .inr (.tail _ h)
theorem rowS_len : ∀ (l : List Stp) (acc : List Nat), (rowS l acc).length ≤ acc.length + l.length
  | [], _ => Nat.le_refl _
  | .L c :: l, acc => by
    have := rowS_len l (acc ++ [c])
    show (rowS l (acc ++ [c])).length ≤ _
    simp only [List.length_append, List.length_cons, List.length_nil] at this ⊢
    omega
  | .U :: l, acc => by
    have := rowS_len l acc.dropLast
    show (rowS l acc.dropLast).length ≤ _
    simp only [List.length_dropLast, List.length_cons] at this ⊢
    omega
  | .D :: l, acc => by
    have := rowS_len l acc
    show (rowS l acc).length ≤ _
    simp only [List.length_cons] at this ⊢
    omega
theorem way4_len {l : List Stp} (h : Way4 l) : l.length ≤ 4 := by cases h <;> simp
theorem wordL_join : ∀ (c : Nat) (l : List Nat), 47 :: joinN 47 ((c :: l).map fun d => [d]) = wordL (c :: l)
  | c, [] => rfl
  | c, d :: l => by
    show 47 :: ([c] ++ 47 :: joinN 47 ((d :: l).map fun d => [d])) = _
    rw [wordL_join d l]
    rfl
theorem pcs_join (r : List Nat) : joinN 47 (pcs r) = npRes r := by
  cases r with
  | nil => rfl
  | cons c l => exact wordL_join c l
theorem keepN_map : ∀ zs : Sts, (keepN zs).map (·.1) = (zs.map (·.1)).filter fun p => !p.isEmpty
  | [] => rfl
  | ([], t) :: l => keepN_map l
  | (c :: p, t) :: l => congrArg _ (keepN_map l)
theorem filter_one : ∀ l : List Nat, (l.map fun d => [d]).filter (fun p => !p.isEmpty) = l.map fun d => [d]
  | [] => rfl
  | c :: l => congrArg _ (filter_one l)
theorem pcs_keep (r : List Nat) (v : List Nat) : (keepN (zipT (pcs r) v)).map (·.1) = r.map fun d => [d] := by
  rw [keepN_map, zipT_map]
  cases r with
  | nil => rfl
  | cons c l => exact filter_one (c :: l)
theorem pcs_piece {r v : List Nat} : ∀ p ∈ zipT (pcs r) v, Piece p := fun p hp => by
  have : p.1 ∈ (zipT (pcs r) v).map (·.1) := List.mem_map_of_mem hp
  rw [zipT_map] at this
  cases r with
  | nil =>
    have : p.1 ∈ ([[], []] : List (List Nat)) := this
    simp only [List.mem_cons, List.not_mem_nil, or_false, or_self] at this
    exact .inl this
  | cons c l =>
    have : p.1 ∈ [] :: (c :: l).map fun d => [d] := this
    rcases List.mem_cons.mp this with h | h
    · exact .inl h
    · obtain ⟨d, _, e⟩ := List.mem_map.mp h
      exact .inr ⟨d, e.symm⟩
theorem pcs_len (r : List Nat) : 2 ≤ (pcs r).length ∧ (pcs r).length ≤ r.length + 2 := by
  cases r with
  | nil => exact ⟨Nat.le_refl _, Nat.le_refl _⟩
  | cons c l =>
    have : (pcs (c :: l)).length = l.length + 2 := by simp [pcs]
    rw [this]
    simp
theorem npRes_len (r : List Nat) : (npRes r).length ≤ 2 * r.length + 1 := by
  have go : ∀ l : List Nat, (wordL l).length = 2 * l.length := fun l => by
    induction l with
    | nil => rfl
    | cons c l ih => simp only [wordL, List.length_cons, ih]; omega
  cases r with
  | nil => exact Nat.le_refl _
  | cons c l =>
    show (wordL (c :: l)).length ≤ _
    rw [go]
    omega
theorem kAq_ok {w : World} {t : Tok} {x : List Nat} {u : Tok} (hx : x.length ≤ 7) : Cut.Ok (VW w) (kAq t x u) := by
  cases x with
  | nil =>
    have g := gives_str_add ⟨⟨[39]⟩⟩ ⟨⟨[]⟩⟩ t u
    exact fun A s R _ _ hS ht hR => code_gives F.slot_str_add.plain F.entry_str_add g (hR _ _ s.heap s.toks ⟨[], [t], rfl, rfl, rfl, rfl⟩ (Got.same hS) ht)
  | cons c x => exact add_ok (by simp) (by simp) (Nat.le_trans (show 1 + (c :: x).length ≤ 8 by omega) (by decide))
structure OkWay (W : List (Stp × Tok)) : Prop where
  four : Way4 (W.map (·.1))
  hand : ∀ d, Stp.L d ∈ W.map (·.1) → Hand d
theorem hand_ne {d : Nat} (h : Hand d) : d ≠ 46 ∧ d ≠ 47 := by rcases h with rfl | rfl | rfl | rfl | rfl | rfl <;> decide
theorem OkWay.row {W : List (Stp × Tok)} (h : OkWay W) : ∀ d ∈ rowN W, Hand d := fun d hd => by
  rcases rowS_mem _ _ hd with q | q
  · cases q
  · exact h.hand d q
theorem OkWay.len {W : List (Stp × Tok)} (h : OkWay W) : (rowN W).length ≤ 4 := by
  have a := rowS_len (W.map (·.1)) []
  have b := way4_len h.four
  show (rowS (W.map (·.1)) []).length ≤ 4
  simp only [List.length_nil] at a
  omega
theorem sgL_lt {x : List Nat} (h : OkX x) : ∀ c ∈ x, c < 128 := fun c hc => by
  have := h.2 c hc
  have all : ∀ d ∈ sgL, d < 128 := by decide
  exact all c this
theorem btK_ok {w : World} {b c : Bool} {E : (Nat → Tok) → Nat → Tok} {f : Nat → Tok} {lay : Bool} {L tc sc hn st ws xs ms : Addr} {x : List Nat} {tx : Tok} {bk : Value} {kvi : Int} {h : List DictEntry} {a : Addr} {W : List (Stp × Tok)} {n : Nat} {u : Tok} {ne : Bool}
    (hW : OkWay W) (hx : OkX x) (hne : ne = !(rowN W).isEmpty) (hh : h = [] ∨ ∃ k v, h = nmE (PW w b c) k v) :
    Oks (wF w b c) (btK (PW w b c) f lay L tc sc hn st ws xs ms x tx bk E kvi h a W n u ne) := by
  have hl := hW.len
  have pl := pcs_len (rowN W)
  have nl := npRes_len (rowN W)
  have rowm : (rowT W []).map (fun p => [p.1]) = (rowN W).map fun d => [d] := by rw [← rowN_is, List.map_map]; rfl
  have hT : ∀ p ∈ rowT W [], Hand p.1 := fun p hp => hW.row p.1 (by rw [← rowN_is]; exact List.mem_map_of_mem hp)
  have hTl : (rowT W []).length ≤ 4 := by
    have := congrArg List.length (rowN_is W)
    rw [List.length_map] at this
    omega
  refine .cons (fun _ _ => kLr_ok hW.four fun p hp d e => (hand_ne (hW.hand d (by rw [← e]; exact List.mem_map_of_mem hp))).1) <|
    .cons (fun _ _ => kNp_ok hW.four fun d hd => hand_ne (hW.hand d hd)) <|
    .cons (fun _ τ => ?_) <|
    .cons (fun ρ τ => kNc_ok ?_ pcs_piece ?_) <|
    .cons (fun ρ τ => kLNr_ok (by rw [pcs_keep, rowm])) <|
    .cons (fun _ _ => kAq_ok hx.1) <|
    .cons (fun ρ τ => kNm_ok hne (pcs_keep _ _) hW.row hx hl hh) <|
    .cons (fun ρ _ => kTd_ok (sgL_lt hx) hx.1 hT hTl) <|
    .cons (fun _ τ => seq_is ?_) <|
    .cons (fun ρ _ => kMk_ok (sgL_lt hx) hx.1 hT hTl) .nil
  · rw [← pcs_join]
    refine kSq_ok pl.1 (fun p hp => ?_) ?_ (Nat.le_trans (show _ ≤ 6 by omega) (by decide))
    · cases e : rowN W with
      | nil =>
        rw [e] at hp
        have hp : p ∈ ([[], []] : List (List Nat)) := hp
        simp only [List.mem_cons, List.not_mem_nil, or_false, or_self] at hp
        subst hp
        exact fun q => nomatch q
      | cons d l =>
        rw [e] at hp
        have hp : p ∈ [] :: (d :: l).map fun d => [d] := hp
        rcases List.mem_cons.mp hp with q | q
        · subst q
          exact fun q => nomatch q
        · obtain ⟨y, hy, rfl⟩ := List.mem_map.mp q
          intro q
          rw [List.mem_singleton] at q
          exact (hand_ne (hW.row y (by rw [e]; exact hy))).2 q.symm
    · rw [pcs_join]
      exact Nat.le_trans (show _ ≤ 9 by omega) (by decide)
  · cases rowN W with
    | nil => exact ⟨_, _, rfl⟩
    | cons d l => exact ⟨_, _, rfl⟩
  · have := congrArg List.length (zipT_map (pcs (rowN W)) (unl (τ 5)))
    rw [List.length_map] at this
    omega
  · rw [beq_iff_eq, rowN_is]
    exact told_law hW.row hx
section
variable (P : Params) (E f : Nat → Tok) (lay : Bool) (L tc it sc hn st a0 a1 ws xs ms : Addr) (x : List Nat) (tx : Tok) (kv bk : Value) (W0 W1 : List (Stp × Tok)) (n0 n1 : Nat) (u0 u1 : Tok)
noncomputable def atT : List Tok → Nat → Tok
  | [], _ => 0
  | t :: l, n => match n with
    | 0 => t
    | n + 1 => atT l n
noncomputable def neN (W : List (Stp × Tok)) : Bool := !(rowN W).isEmpty
noncomputable def bgF (as : List Addr) (ts : List Tok) : Obj := nmF P (eT0 E lay fun i => match i with
    | 1 => atT ts 0
    | 2 => atT ts 1
    | 10 => atT ts 2
    | _ => atT ts 3) lay L tc sc hn st ws xs ms (hd2 as) (hd3 as) x tx (.int 1 (atT ts 4)) bk (hTxN (rowN W1) (39 :: x)) (atT ts 5) (nmH P (neN W1) (nmH P (neN W0) [] [0, atT ts 6, atT ts 7, atT ts 8]) [0, atT ts 9, atT ts 10, atT ts 11])
noncomputable def mkO (W : List (Stp × Tok)) (v : Nat) (n : Nat) : Obj := listN (vsO (zipT (mkN ((rowT W []).map (·.1)) x) (unl v))) n
noncomputable def kBg : Cut := ⟨none, bgC P L tc it, [(L, frR (lwEnv P L tc) bk (lwS P E lay sc hn x tx st kv ws xs ms)), (xs, listN [] 0), (ms, listN [] 0), (hn, dlO P (hdDL f) 5), (st, listN [.ref a0, .ref a1] 0), (a0, listN (stV W0) n0), (a1, listN (stV W1) n1), (ws, listN [sv (wordS (W0.map (·.1))) u0, sv (wordS (W1.map (·.1))) u1] 4), (it, riO 0 2)],
  24, 4, 18, fun _ _ => .ok .next,
  fun as ts => [bgF P E lay L tc sc hn st ws xs ms x tx bk W0 W1 as ts, listN [sv (hTxN (rowN W0) (39 :: x)) (atT ts 12), sv (hTxN (rowN W1) (39 :: x)) (atT ts 5)] 2, listN [.ref (hd0 as), .ref (hd1 as)] 2],
  fun _ ts => [mkO x W0 (atT ts 14) (atT ts 15), mkO x W1 (atT ts 16) (atT ts 17)], none⟩
end
section
variable {w : World} {b c : Bool} {E f : Nat → Tok} {lay : Bool} {L tc it sc hn st a0 a1 ws xs ms : Addr} {x : List Nat} {tx : Tok} {kv bk : Value} {W0 W1 : List (Stp × Tok)} {n0 n1 : Nat} {u0 u1 : Tok}
theorem bgU : (bgC (PW w b c) L tc it).cUnits ≤ 10 := by rw [bgC_eq]; exact Nat.le_of_ble_eq_true rfl
theorem bg_end {F : Obj} {texts marks : List Value} {nx nm : Nat} : Spec (VW (wF w b c)) none 24 (bgC (PW w b c) L tc it) (btD (PW w b c) f L it hn st a0 a1 ws xs ms W0 W1 n0 n1 u0 u1 F texts marks nx nm 2 0) fun R D => R = .ok .next ∧ D = [(L, F), (xs, listN texts nx), (ms, listN marks nm)] :=
  spec_le bgU bgT_le (fun ρ τ => bte_run w b c ρ τ f L tc it hn st a0 a1 ws xs ms W0 W1 n0 n1 u0 u1 F texts marks nx nm) (Oks.nil) fun _ _ => ⟨rfl, rfl⟩
theorem bg_one {r m nm : Addr} {t0 : List Nat} {tt : Tok} {h : List DictEntry} (hW : OkWay W1) (hx : OkX x) (hh : h = [] ∨ ∃ k v, h = nmE (PW w b c) k v) :
    Spec (VW (wF w b c)) none 24 (bgC (PW w b c) L tc it) (btD (PW w b c) f L it hn st a0 a1 ws xs ms W0 W1 n0 n1 u0 u1 (nmF (PW w b c) E lay L tc sc hn st ws xs ms r nm x tx kv bk t0 tt h) [sv t0 tt] [.ref m] 1 1 1 1)
      fun R D => ∃ (r' nm' m' : Addr) (tk t' a b' d v n : Tok), R = .ok .next ∧ D = [(L, nmF (PW w b c) E lay L tc sc hn st ws xs ms r' nm' x tx (.int 1 tk) bk (hTxN (rowN W1) (39 :: x)) t' (nmH (PW w b c) (neN W1) h [t', a, b', d])), (xs, listN [sv t0 tt, sv (hTxN (rowN W1) (39 :: x)) t'] 2), (ms, listN [.ref m, .ref m'] 2), (m', mkO x W1 v n)] := by
  have fin : ∀ (ρ : Nat → Addr) (τ : Nat → Tok), _ := fun ρ τ => ((bg_end (w := w) (b := b) (c := c) (f := f) (L := L) (tc := tc) (it := it) (hn := hn) (st := st) (a0 := a0) (a1 := a1) (ws := ws) (xs := xs) (ms := ms) (W0 := W0) (W1 := W1) (n0 := n0) (n1 := n1) (u0 := u0) (u1 := u1)
    (F := nmF (PW w b c) E lay L tc sc hn st ws xs ms (ρ 0) (ρ 3) x tx (.int 1 (τ 0)) bk (hTxN (rowN W1) (39 :: x)) (τ 14) (nmH (PW w b c) (neN W1) h [τ 14, τ 15, τ 16, τ 17])) (texts := [sv t0 tt, sv (hTxN (rowN W1) (39 :: x)) (τ 14)]) (marks := [.ref m, .ref (ρ 6)]) (nx := 2) (nm := 2)).frame [(ρ 6, mkO x W1 (τ 20) (τ 21))]).mono (Nat.le_refl _)
    (Q := fun R D => ∃ (r' nm' m' : Addr) (tk t' a b' d v n : Tok), R = .ok .next ∧ D = [(L, nmF (PW w b c) E lay L tc sc hn st ws xs ms r' nm' x tx (.int 1 tk) bk (hTxN (rowN W1) (39 :: x)) t' (nmH (PW w b c) (neN W1) h [t', a, b', d])), (xs, listN [sv t0 tt, sv (hTxN (rowN W1) (39 :: x)) t'] 2), (ms, listN [.ref m, .ref m'] 2), (m', mkO x W1 v n)])
    fun R D q => by
      obtain ⟨L', ⟨rfl, rfl⟩, rfl⟩ := q
      exact ⟨ρ 0, ρ 3, ρ 6, τ 0, τ 14, τ 15, τ 16, τ 17, τ 20, τ 21, rfl, rfl⟩
  have ks := btK_ok (w := w) (b := b) (c := c) (E := fun _ => E) (f := f) (lay := lay) (L := L) (tc := tc) (sc := sc) (hn := hn) (st := st) (ws := ws) (xs := xs) (ms := ms) (tx := tx) (bk := bk) (kvi := 1) (a := a1) (n := n1) (u := u1) hW hx (rfl : neN W1 = _) hh
  cases lay with
  | true => exact spec_le bgU bgT_le (fun ρ τ => btt1_run w b c ρ τ E f L tc it sc hn st a0 a1 ws xs ms x tx bk W0 W1 n0 n1 u0 u1 (neN W1) kv r m nm t0 tt h) ks fun ρ τ => fin ρ τ
  | false => exact spec_le bgU bgT_le (fun ρ τ => btf1_run w b c ρ τ E f L tc it sc hn st a0 a1 ws xs ms x tx bk W0 W1 n0 n1 u0 u1 (neN W1) kv r m nm t0 tt h) ks fun ρ τ => fin ρ τ
theorem perm9 {α : Type} (a x m h s p q w i : α) : [a, x, m, h, s, p, q, w, i].Perm [a, h, s, p, q, w, x, m, i] :=
  .cons _ ((List.perm_append_comm (l₁ := [x, m]) (l₂ := [h, s, p, q, w])).append_right [i])
theorem nmH_or (ne : Bool) {P : Params} {h : List DictEntry} {ts : List Tok} (hh : h = [] ∨ ∃ k v, h = nmE P k v) : nmH P ne h ts = [] ∨ ∃ k v, nmH P ne h ts = nmE P k v := by
  cases ne with
  | false => exact hh
  | true => exact .inr ⟨_, _, rfl⟩
theorem kBg_ok (h0 : OkWay W0) (h1 : OkWay W1) (hx : OkX x) : Cut.Ok (VW (wF w b c)) (kBg (PW w b c) E f lay L tc it sc hn st a0 a1 ws xs ms x tx kv bk W0 W1 n0 n1 u0 u1) := by
  have ks := btK_ok (w := w) (b := b) (c := c) (E := eT0 E lay) (f := f) (lay := lay) (L := L) (tc := tc) (sc := sc) (hn := hn) (st := st) (ws := ws) (xs := xs) (ms := ms) (tx := tx) (bk := bk) (kvi := 0) (a := a0) (n := n0) (u := u0) h0 hx (rfl : neN W0 = _) (.inl rfl)
  have go : Spec (VW (wF w b c)) none 24 (bgC (PW w b c) L tc it) (btD (PW w b c) f L it hn st a0 a1 ws xs ms W0 W1 n0 n1 u0 u1 (frR (lwEnv (PW w b c) L tc) bk (lwS (PW w b c) E lay sc hn x tx st kv ws xs ms)) [] [] 0 0 0 2)
      fun R D => ∃ (as : List Addr) (ts : List Tok), as.length = 4 ∧ ts.length = 18 ∧ R = .ok .next ∧ D = [(L, bgF (PW w b c) E lay L tc sc hn st ws xs ms x tx bk W0 W1 as ts), (xs, listN [sv (hTxN (rowN W0) (39 :: x)) (atT ts 12), sv (hTxN (rowN W1) (39 :: x)) (atT ts 5)] 2), (ms, listN [.ref (hd0 as), .ref (hd1 as)] 2), (hd1 as, mkO x W1 (atT ts 16) (atT ts 17)), (hd0 as, mkO x W0 (atT ts 14) (atT ts 15))] := by
    have fin : ∀ (ρ : Nat → Addr) (τ : Nat → Tok), _ := fun ρ τ => ((bg_one (w := w) (b := b) (c := c) (E := eT0 E lay τ) (f := f) (lay := lay) (L := L) (tc := tc) (it := it) (sc := sc) (hn := hn) (st := st) (a0 := a0) (a1 := a1) (ws := ws) (xs := xs) (ms := ms) (x := x) (tx := tx) (kv := .int 0 (τ 0)) (bk := bk) (W0 := W0) (W1 := W1) (n0 := n0) (n1 := n1) (u0 := u0) (u1 := u1)
      (r := ρ 0) (m := ρ 6) (nm := ρ 3) (t0 := hTxN (rowN W0) (39 :: x)) (tt := τ 14) (h := nmH (PW w b c) (neN W0) [] [τ 14, τ 15, τ 16, τ 17]) h1 hx (nmH_or _ (.inl rfl))).frame [(ρ 6, mkO x W0 (τ 20) (τ 21))]).mono (Nat.le_refl _)
      (Q := fun R D => ∃ (as : List Addr) (ts : List Tok), as.length = 4 ∧ ts.length = 18 ∧ R = .ok .next ∧ D = [(L, bgF (PW w b c) E lay L tc sc hn st ws xs ms x tx bk W0 W1 as ts), (xs, listN [sv (hTxN (rowN W0) (39 :: x)) (atT ts 12), sv (hTxN (rowN W1) (39 :: x)) (atT ts 5)] 2), (ms, listN [.ref (hd0 as), .ref (hd1 as)] 2), (hd1 as, mkO x W1 (atT ts 16) (atT ts 17)), (hd0 as, mkO x W0 (atT ts 14) (atT ts 15))])
      fun R D q => by
        obtain ⟨L', ⟨r', nm', m', tk, t', a', b', d', v, n, rfl, rfl⟩, rfl⟩ := q
        exact ⟨[ρ 6, m', r', nm'], [τ 1, τ 2, τ 10, τ 13, tk, t', τ 15, τ 16, τ 17, a', b', d', τ 14, 0, τ 20, τ 21, v, n], rfl, rfl, rfl, rfl⟩
    cases lay with
    | true => exact spec_le bgU bgT_le (fun ρ τ => btt0_run w b c ρ τ E f L tc it sc hn st a0 a1 ws xs ms x tx bk W0 W1 n0 n1 u0 u1 (neN W0) kv) ks fun ρ τ => fin ρ τ
    | false => exact spec_le bgU bgT_le (fun ρ τ => btf0_run w b c ρ τ E f L tc it sc hn st a0 a1 ws xs ms x tx bk W0 W1 n0 n1 u0 u1 (neN W0) kv) ks fun ρ τ => fin ρ τ
  refine go.perm ?_ fun R D q => ?_
  · exact perm9 _ _ _ _ _ _ _ _ _
  · obtain ⟨as, ts, e1, e2, rfl, rfl⟩ := q
    match as, e1 with
    | [p0, p1, p2, p3], _ => exact ⟨_, .cons _ (.cons _ (.cons _ (.swap _ _ _))), [p0, p1, p2, p3], ts, rfl, e2, rfl, rfl⟩
end
end Mine
end
section
open PySem PySem.W PySem.W.X PyProof.Rows
set_option Elab.async false
set_option maxRecDepth 100000
namespace Mine
noncomputable def li_h : List Nat := [1, 1, 0, 1, 3, 3, 0, 0, 0, 3, 0, 0, 0, 0, 0, 0, 0, 1, 0, 1, 4, 0, 0, 0, 4, 0, 0, 0, 4, 0, 0, 0, 2, 1, 2, 2, 1, 2, 0, 4, 0, 0, 0, 0, 1, 6, 3, 3, 3, 3, 3, 3, 8, 7, 8, 0, 1, 0, 0, 0, 0, 1, 6, 0, 0, 0, 0, 0, 0, 8, 7, 8, 0, 1, 0, 0, 0, 0, 1, 8, 8, 0, 0, 0, 0, 0, 0, 2, 8, 2, 9, 0]
noncomputable def li_e (w : World) : List (Of Ent) := [fun ρ _ => entOf (o722 w.params) 722 (ρ 0)]
noncomputable def sp_h : List Nat := [0, 0, 0, 1, 0, 1, 0, 1, 0, 1, 0, 1, 1, 0, 0, 0, 0, 0, 0, 0, 0, 0, 0, 0, 0, 0, 0, 0, 0, 0, 0, 0, 0, 0, 0, 0, 0, 0, 0, 0, 0, 0, 0, 0, 0, 0, 1, 0, 1, 0, 0, 0, 0, 0, 0, 0, 0, 1, 0, 1, 0, 1, 0, 1, 0, 1, 0, 0, 0, 1, 0, 0, 0, 0, 0, 0, 1, 0, 0, 0, 0, 0, 0, 0, 0, 0, 0, 0, 0, 0, 0, 0, 0, 0, 0, 0, 0, 0, 0, 0, 0, 0, 0, 0, 0, 0, 0, 0, 0, 0, 1, 0, 1, 0, 1, 0, 1, 0, 0, 0, 1, 0, 0, 0, 0, 0, 1, 0, 0, 0, 0, 0, 0, 0, 0, 0, 0, 0, 0, 0, 0, 0, 0, 0, 0, 0, 0, 0, 0, 0, 0, 0, 0, 0, 0, 0, 0, 0, 0, 0, 0, 0, 0, 0, 0, 0, 1, 0, 1, 0, 0, 0, 0, 0, 0, 0, 0, 1, 0, 1, 0, 1, 0, 1, 0, 0, 1, 0, 0, 0, 0, 1, 1, 0, 0, 1, 0, 0, 1, 0, 0, 1, 0, 0, 0, 0, 1, 1, 2, 0, 0, 0, 0, 0, 0, 0, 0, 2, 0, 0, 2, 0, 2, 0, 0, 0, 0, 0, 0, 0, 2, 0, 3, 2, 3, 1, 2, 0, 0, 0, 0, 0, 0, 0, 0, 2, 0, 0, 2, 0, 2, 0, 0, 0, 0, 0, 0, 0, 2, 0, 3, 2, 3, 1, 2, 0, 0, 0, 0, 0, 0, 0, 0, 2, 0, 0, 2, 0, 2, 0, 0, 0, 0, 0, 0, 0, 2, 0, 3, 2, 3, 1, 1, 2, 0, 0, 0, 0, 0, 0, 0, 2, 0, 0, 0, 0, 0, 0, 0, 2, 0, 0, 0, 0, 2, 3, 1, 0, 0, 0, 0, 1, 0, 1, 0, 1, 3, 0, 0, 0, 0, 0, 0, 0, 0, 3, 0, 0, 0, 0, 0, 0, 0, 3, 3, 0, 4, 1, 0, 1, 1, 0, 0, 1, 0, 0, 1, 2, 3, 0, 0, 0, 0, 0, 0, 0, 0, 3, 0, 0, 3, 0, 3, 0, 0, 0, 0, 0, 0, 0, 3, 0, 4, 3, 4, 8, 7, 8, 8, 8, 9, 0, 0, 0, 0, 9, 0, 0, 9, 0, 9, 0, 0, 0, 9, 0, 10, 9, 10, 8, 8, 9, 0, 0, 0, 0, 9, 0, 0, 9, 0, 9, 0, 0, 0, 9, 0, 10, 9, 10, 8, 8, 9, 0, 0, 0, 0, 9, 0, 0, 9, 0, 9, 0, 0, 0, 9, 0, 10, 9, 10, 8, 8, 9, 0, 0, 0, 0, 9, 0, 0, 9, 0, 9, 0, 0, 0, 9, 0, 10, 9, 10, 8, 9, 0, 0, 0, 0, 9, 0, 0, 9, 0, 9, 0, 0, 0, 9, 0, 10, 9, 10, 8, 9, 0, 0, 0, 0, 9, 0, 0, 9, 0, 9, 0, 0, 0, 9, 0, 10, 9, 10, 8, 9, 0, 0, 0, 0, 9, 0, 0, 0, 9, 9, 0, 10, 8, 9, 0, 0, 0, 0, 9, 0, 0, 0, 9, 9, 0, 10, 0, 0, 9, 0, 0, 0, 0, 9, 0, 0, 9, 0, 9, 0, 0, 0, 9, 0, 10, 9, 10, 8, 9, 0, 0, 0, 0, 9, 0, 0, 9, 0, 9, 0, 0, 0, 9, 0, 10, 9, 10, 8, 9, 0, 0, 0, 0, 9, 0, 0, 9, 0, 9, 0, 0, 0, 9, 0, 10, 9, 10, 8, 9, 0, 0, 0, 0, 9, 0, 0, 9, 0, 9, 0, 0, 0, 9, 0, 10, 9, 10, 8, 9, 0, 0, 0, 0, 9, 0, 0, 9, 0, 9, 0, 0, 0, 9, 0, 10, 9, 10, 8, 9, 0, 0, 0, 0, 9, 0, 0, 9, 0, 9, 0, 0, 0, 9, 0, 10, 9, 10, 8, 9, 0, 0, 0, 0, 9, 0, 0, 9, 0, 9, 0, 0, 0, 9, 0, 10, 9, 10, 0, 0, 0, 0, 0, 1, 1, 0, 1, 0, 1, 0, 1, 9, 10, 0, 0, 0, 0, 10, 0, 0, 10, 0, 10, 0, 0, 0, 10, 0, 11, 10, 11, 9, 10, 0, 0, 0, 0, 10, 0, 0, 10, 0, 10, 0, 0, 0, 10, 0, 11, 10, 11, 9, 10, 0, 0, 0, 0, 10, 0, 0, 10, 0, 10, 0, 0, 0, 10, 0, 11, 10, 11, 9, 10, 0, 0, 0, 0, 10, 0, 0, 10, 0, 10, 0, 0, 0, 10, 0, 11, 10, 11, 0, 0, 0, 0, 0, 1, 1, 0, 1, 0, 1, 0, 1, 10, 11, 0, 0, 0, 0, 11, 0, 0, 11, 0, 11, 0, 0, 0, 11, 0, 12, 11, 12, 10, 11, 0, 0, 0, 0, 11, 0, 0, 11, 0, 11, 0, 0, 0, 11, 0, 12, 11, 12, 10, 10, 9, 10, 10, 11, 0, 0, 0, 0, 11, 0, 0, 11, 0, 11, 0, 0, 0, 11, 0, 12, 11, 12, 10, 0, 0, 0, 13, 12, 13, 11, 0, 0, 0, 0, 11, 0, 0, 11, 0, 11, 0, 0, 0, 11, 0, 12, 11, 12, 13, 13, 11, 0, 0, 0, 0, 11, 0, 0, 11, 0, 11, 0, 0, 0, 11, 0, 12, 11, 12, 0, 0, 13, 0, 0, 0, 1, 0, 1, 1, 0, 1, 1, 9, 0, 13, 10, 10, 4, 4, 1, 0, 6, 2, 1, 0]
noncomputable def sp_e (w : World) : List (Of Ent) := [fun ρ _ => entOf (o744 w.params) 744 (ρ 0), fun ρ _ => entOf (o656 w.params) 656 (ρ 3), fun ρ _ => entOf (o90 w.params) 90 (ρ 6), fun ρ _ => entOf (o367 w.params) 367 (ρ 9), fun ρ _ => entOf (o374 w.params) 374 (ρ 10)]
end Mine
end
section
open PySem PySem.W PySem.W.X PyProof.Rows
set_option Elab.async false
set_option maxRecDepth 100000
namespace Mine
noncomputable def ne0_h : List Nat := [0, 0, 1, 0, 9, 0, 0, 0, 0, 0, 0, 0, 0, 0]
noncomputable def ne0_e (w : World) : List (Of Ent) := [fun ρ _ => entOf (o729 w.params) 729 (ρ 0) true]
noncomputable def ne_h : List Nat := [1, 4, 0, 0, 0, 4, 0, 0, 0, 4, 0, 0, 0, 0, 4, 5, 0, 0, 0, 0, 1, 0, 1, 5, 0, 0, 0, 0, 5, 0, 0, 0, 5, 5, 0, 6, 9, 9, 0, 9, 0, 9, 0, 9, 1, 5, 0, 0, 0, 5, 0, 0, 0, 5, 0, 0, 0, 0, 5, 6, 0, 0, 0, 0, 1, 0, 1, 0, 1, 0, 1, 5, 0, 4, 4, 4, 4, 1, 2, 0, 0, 0, 0, 2, 0, 0, 0, 2, 2, 0, 3, 1, 0, 1, 2, 0, 0, 0, 0, 2, 0, 0, 2, 0, 2, 0, 0, 0, 2, 0, 3, 2, 3, 1, 2, 0, 0, 0, 0, 2, 0, 0, 0, 2, 2, 0, 3, 1, 1, 0, 0, 1, 0, 1, 2, 0, 0, 0, 0, 2, 0, 0, 0, 2, 2, 0, 3, 0, 0, 1, 6, 5, 6, 2, 0, 0, 0, 0, 2, 0, 0, 0, 2, 2, 0, 3, 0, 6, 6, 2, 0, 0, 0, 0, 2, 0, 0, 0, 2, 2, 0, 3, 0, 0, 6, 2, 0, 0, 0, 0, 2, 0, 0, 0, 2, 2, 0, 3, 11, 11, 0, 11, 0, 11, 0, 11, 6, 2, 0, 0, 0, 0, 2, 0, 0, 0, 2, 2, 0, 3, 7, 6, 7, 7, 2, 0, 0, 0, 0, 2, 0, 0, 0, 2, 2, 0, 3, 0, 0, 0, 0, 0, 0, 0, 1, 0, 1, 1, 0, 1, 1, 0, 0, 2, 2, 1, 2, 2, 1, 2, 1, 2, 2, 0, 0, 0, 2, 10, 1, 8, 8, 8, 3, 3, 3, 3, 4, 4]
noncomputable def ne_e (w : World) : List (Of Ent) := [fun ρ _ => entOf (o693 w.params) 693 (ρ 0), fun ρ _ => entOf (o700 w.params) 700 (ρ 1)]
end Mine
end
section
open PySem PySem.W PySem.W.X PyProof.Rows
set_option Elab.async false
set_option maxRecDepth 100000
namespace Mine
noncomputable def nx_h : List Nat := [0, 0, 1, 0, 1, 2, 0, 0, 0, 2, 0, 0, 0, 2, 0, 0, 0, 0, 2, 3, 0, 0, 0, 0, 1, 0, 1, 3, 0, 0, 0, 0, 3, 0, 0, 0, 3, 3, 0, 4, 7, 7, 0, 7, 0, 7, 0, 7, 1, 3, 0, 0, 0, 3, 0, 0, 0, 3, 0, 0, 0, 0, 3, 4, 0, 0, 0, 0, 1, 0, 1, 0, 1, 0, 1, 5, 0, 2, 2, 2, 2, 1, 2, 0, 0, 0, 0, 2, 0, 0, 0, 2, 2, 0, 3, 1, 0, 1, 2, 0, 0, 0, 0, 2, 0, 0, 2, 0, 2, 0, 0, 0, 2, 0, 3, 2, 3, 1, 2, 0, 0, 0, 0, 2, 0, 0, 0, 2, 2, 0, 3, 1, 1, 0, 0, 1, 2, 0, 0, 0, 0, 2, 0, 0, 0, 2, 2, 0, 3, 0, 0, 1, 6, 5, 6, 2, 0, 0, 0, 0, 2, 0, 0, 0, 2, 2, 0, 3, 0, 6, 6, 2, 0, 0, 0, 0, 2, 0, 0, 0, 2, 2, 0, 3, 0, 0, 0, 0, 6, 2, 0, 0, 0, 0, 2, 0, 0, 0, 2, 2, 0, 3, 0, 0, 6, 7, 6, 7, 7, 2, 0, 0, 0, 0, 2, 0, 0, 0, 2, 2, 0, 3, 0, 0, 0, 0, 7, 6, 1, 1, 1, 1, 3, 3]
noncomputable def nx_e (w : World) : List (Of Ent) := [fun ρ _ => entOf (o729 w.params) 729 (ρ 0), fun ρ _ => entOf (o693 w.params) 693 (ρ 1), fun ρ _ => entOf (o700 w.params) 700 (ρ 2)]
end Mine
end
section
open PySem PySem.W PySem.W.X PyProof.Rows
set_option Elab.async false
set_option maxRecDepth 100000
namespace Mine
section
variable (w : World) (b c : Bool) (ρ : Nat → Addr) (τ : Nat → Tok) (T TI : Nat → Tok) (a d io dio q1 q2 : Addr) (l : List Nat) (tb ts tt tp : Tok) (p : Nat) (nc word : List Nat) (p' : Nat) (st' : Tok → Value)
theorem nx_run : Both (runOf (wF w b c) ρ τ 600 (nxZ (wF w b c).params T TI a d io dio q1 q2 l tb (47 :: word) st' p') nx_h (nxK (wF w b c).params T TI a d io dio q1 q2 l tb ts tt tp p nc (47 :: word) st' p') (nx_e (wF w b c)) 9 (.call (.ref 729) ⟨[.ref a], []⟩) (lexL (wF w b c).params T TI a d io dio q1 q2 l tb (chS 32 ts) (.str ⟨⟨[]⟩⟩ tt) p tp)) := by
  cases b <;> exact both_of (by kernel_rfl)
end
theorem kNx_ok {w : World} {b c : Bool} {T TI : Nat → Tok} {a d io dio q1 q2 : Addr} {l : List Nat} {tb ts tt tp : Tok} {p : Nat} {rest after : List Nat} {st' : Tok → Value} {p' : Nat} (hl : l.length ≤ sizeLine) (hs : ∀ s ∈ rest, okc s) (hd : l.drop p = 47 :: (rest ++ after))
    (h : (after = [] ∧ st' = stNone ∧ p' = p + 1 + rest.length) ∨ (∃ m, after = 32 :: m ∧ st' = chS 32 ∧ p' = p + 1 + rest.length + 1)) (hb : rest.length + 2 ≤ sizeLine) : Cut.Ok (VW (wF w b c)) (kNx (wF w b c).params T TI a d io dio q1 q2 l tb ts tt tp p (47 :: rest) st' p') := by
  obtain ⟨nc, h'⟩ : ∃ nc, (after = [] ∧ nc = [] ∧ st' = stNone ∧ p' = p + 1 + rest.length) ∨ (∃ m, after = 32 :: m ∧ nc = [32] ∧ st' = chS 32 ∧ p' = p + 1 + rest.length + 1) := by
    rcases h with ⟨h1, h2, h3⟩ | ⟨m, h1, h2, h3⟩
    · exact ⟨[], .inl ⟨h1, rfl, h2, h3⟩⟩
    · exact ⟨[32], .inr ⟨m, h1, rfl, h2, h3⟩⟩
  exact spec_run (fun ρ τ => nx_run w b c ρ τ T TI a d io dio q1 q2 l tb ts tt tp p nc rest p' st') (Oks.cons (fun _ _ => kLp_ok (lp_word w b c T TI _ _ a d io dio q1 q2 l _ tb hl after rest p ts tt tp hs hd nc st' p' h' hb)) .nil) fun ρ τ => ⟨[], [τ 12, τ 11, τ 16, τ 13], rfl, rfl, rfl, rfl⟩
end Mine
end
section
open PySem PySem.W PySem.W.X PyProof.Rows
set_option Elab.async false
set_option maxRecDepth 100000
namespace Mine
section
variable (w : World) (b c : Bool) (fr : Option (List Env)) (ρ : Nat → Addr) (τ : Nat → Tok) (T TI : Nat → Tok) (a d io dio q1 q2 : Addr) (l : List Nat) (tb : Tok) (Ll Ls : Addr) (fl fs : Obj) (tt tp : Tok)
theorem ne0_run : Both (runFr (wF w b c) fr ρ τ 100 (ne0Z (wF w b c).params T TI a d io dio q1 q2 l tb Ll Ls fl fs (.str ⟨⟨[]⟩⟩ tt) tp) ne0_h [] (ne0_e (wF w b c)) 9 (.call (.ref 729) ⟨[.ref a], []⟩) (neL (wF w b c).params T TI a d io dio q1 q2 l tb Ll Ls fl fs (.str ⟨⟨[]⟩⟩ tt) tp)) := both_of (by kernel_rfl)
theorem ne_run (L : Addr) (k : Tok) : Both (sim (VW (wF w b c)) fr ρ τ (neZ (wF w b c).params T TI a d io dio q1 q2 l tb Ll Ls fl fs k L) 600 ne_h (neK (wF w b c).params T TI a d io dio q1 q2 l tb tt tp) (ne_e (wF w b c)) 9 .base (nxC (wF w b c).params L) (finF (exF (nxBody (wF w b c).params) (nxEnv (wF w b c).params L)))
    ((L, nxF0 (wF w b c).params k a) :: neL (wF w b c).params T TI a d io dio q1 q2 l tb Ll Ls fl fs (.str ⟨⟨[]⟩⟩ tt) tp) 0 0 [] []) := by
  cases b <;> exact both_of (by kernel_rfl)
end
theorem kNe_ok {w : World} {b c : Bool} {T TI : Nat → Tok} {a d io dio q1 q2 : Addr} {l : List Nat} {tb : Tok} {Ll Ls : Addr} {fl fs : Obj} {tt tp : Tok} {e1 e2 : Env} (hl : l.length ≤ sizeLine)
    (f1 : e1.frame = some Ls) (f2 : e2.frame = some Ll) (k1 : e1.scope.kind ≠ .module) (k2 : e2.scope.kind ≠ .module) (s1 : (fs.slots.getD 3 none).isSome = false) (s2 : (fl.slots.getD 3 none).isSome = false)
    (r1 : fs.isFreed = false) (r2 : fl.isFreed = false) : Cut.Ok (VW (wF w b c)) (kNe (wF w b c).params T TI a d io dio q1 q2 l tb Ll Ls fl fs e1 e2 tt tp) := by
  have key : ∀ L k, Spec (VW (wF w b c)) (some [e1, e2]) 9 (nxC (wF w b c).params L) ((L, nxF0 (wF w b c).params k a) :: neL (wF w b c).params T TI a d io dio q1 q2 l tb Ll Ls fl fs (.str ⟨⟨[]⟩⟩ tt) tp)
      fun r D => ∃ e t tbk n k1 k2, r = .error (.ref e) ∧ D = (e, exO3 t tbk) :: (Ll, readyO e2 (bkV n) fl) :: lexL (wF w b c).params T TI a d io dio q1 q2 l tb .none (.str ⟨⟨[]⟩⟩ k1) l.length k2 := by
    intro L k A s R hA hF hS ht hR
    have X := run_ex (P := fun r D => ∃ e t kk k1 k2, r = .error (.ref e) ∧ D = (e, exO2 t) :: (L, nxF1 (wF w b c).params k kk a) :: neL (wF w b c).params T TI a d io dio q1 q2 l tb Ll Ls fl fs (.str ⟨⟨[]⟩⟩ k1) k2)
      (fun ρ τ => ne_run w b c (some [e1, e2]) ρ τ T TI a d io dio q1 q2 l tb Ll Ls fl fs tt tp L k) (Oks.cons (fun _ _ => kLp_ok (lp_end w b c T TI _ _ a d io dio q1 q2 l _ tb hl tt tp)) (.cons (fun _ _ => kEN_ok) .nil)) (fun ρ τ => ⟨_, rfl, _, _, _, _, _, rfl, rfl⟩)
    refine func_own (wpOwn_mono (X A s (fun r s' => match r with
      | .ok _ => False
      | .error e => wpAny (model pw (wF w b c)) (A.under (nxC (wF w b c).params L)) (leaving (nxEnv (wF w b c).params L) e) (fun _ s'' => R (.error e) s'') (fun e' s'' => R (.error e') s'') s') hA hF hS ht fun r D h' tk' hp G ht' => ?_) (fun f s' x => x.elim) fun e s' x => x)
    obtain ⟨e, t, kk, k1, k2, rfl, rfl⟩ := hp
    have fr : (A.under (nxC (wF w b c).params L)).frames = some [nxEnv (wF w b c).params L, e1, e2] := under_frames (hF _ rfl)
    refine leave3 (V := VW (wF w b c)) fr rfl f1 f2 (of_decide_eq_false (by kernel_rfl)) (by assumption) (by assumption) rfl s1 s2 rfl r1 r2 G fun tbk n h'' G' => ?_
    exact hR _ _ h'' tk' ⟨e, t, tbk, n, k1, k2, rfl, rfl⟩ G' ht'
  have key2 : Spec (VW (wF w b c)) (some [e1, e2]) 9 (.call (.ref 729) ⟨[.ref a], []⟩) (neL (wF w b c).params T TI a d io dio q1 q2 l tb Ll Ls fl fs (.str ⟨⟨[]⟩⟩ tt) tp)
      fun r D => ∃ e t tbk n k1 k2, r = .error (.ref e) ∧ D = (e, exO3 t tbk) :: (Ll, readyO e2 (bkV n) fl) :: lexL (wF w b c).params T TI a d io dio q1 q2 l tb .none (.str ⟨⟨[]⟩⟩ k1) l.length k2 :=
    spec_run (fun ρ τ => ne0_run w b c (some [e1, e2]) ρ τ T TI a d io dio q1 q2 l tb Ll Ls fl fs tt tp) Oks.nil fun ρ τ => key (ρ 0) (τ 0)
  refine key2.perm ?_ fun r D x => ?_
  · show ((Ll, fl) :: (lexL (wF w b c).params T TI a d io dio q1 q2 l tb .none (.str ⟨⟨[]⟩⟩ tt) l.length tp ++ [(Ls, fs)])).Perm ((Ls, fs) :: (Ll, fl) :: lexL (wF w b c).params T TI a d io dio q1 q2 l tb .none (.str ⟨⟨[]⟩⟩ tt) l.length tp)
    exact List.perm_append_comm (l₁ := (Ll, fl) :: lexL (wF w b c).params T TI a d io dio q1 q2 l tb .none (.str ⟨⟨[]⟩⟩ tt) l.length tp) (l₂ := [(Ls, fs)])
  · obtain ⟨e, t, tbk, n, k1, k2, rfl, rfl⟩ := x
    refine ⟨_, List.perm_append_comm (l₁ := [(e, exO3 t tbk)]), [e, t, tbk], [n, k1, k2], rfl, rfl, rfl, rfl⟩
end Mine
end
section
open PySem PySem.W PySem.W.X PyProof.Rows
set_option Elab.async false
set_option maxRecDepth 100000
namespace Mine
section
variable (w : World) (b c : Bool) (ρ : Nat → Addr) (τ : Nat → Tok) (T TI : Nat → Tok) (a d io dio q1 q2 : Addr) (l : List Nat) (tl : Tok) (Ll Ls : Addr) (fl fs : Obj) (e1 e2 : Env) (w0 w1 : List Nat) (p1 : Nat) (A : Addr) (ts tt tp : Tok)
theorem li_run : Both (sim (VW (wF w b c)) (some [e1, e2]) ρ τ (liZ Ll fl e2 w0 w1 A) 200 li_h (liK (wF w b c).params T TI a d io dio q1 q2 l tl Ll Ls fl fs e1 e2 w0 w1 p1 ts tt tp) (li_e (wF w b c)) 10 .base (.builtin "list.__init__" ⟨[.ref A, .ref a], []⟩) (liT A a).1
    (liL (wF w b c).params T TI a d io dio q1 q2 l tl Ll Ls fl fs A (.str ⟨⟨[]⟩⟩ tt) ts tp) 0 0 [] []) := by
  cases b <;> exact both_of (by kernel_rfl)
theorem sp_run : Both (runFr (wF w b c) (some [e2]) ρ τ 1600 (spZ Ll fl e2 w0 w1) sp_h (spK (wF w b c).params l tl Ll fl e2 w0 w1) (sp_e (wF w b c)) 14 (.call (.ref 744) ⟨[.str ⟨⟨l⟩⟩ tl], []⟩) [(Ll, fl)]) := by
  cases b <;> exact both_of (by kernel_rfl)
end
theorem kSp_ok {w : World} {b c : Bool} {l : List Nat} {tl : Tok} {Ll : Addr} {fl : Obj} {e2 : Env} {r0 r1 : List Nat} (hl : l = 47 :: (r0 ++ 32 :: 47 :: r1)) (h0 : ∀ s ∈ r0, okc s) (h1 : ∀ s ∈ r1, okc s) (hb : r0.length + r1.length + 10 ≤ sizeLine)
    (f2 : e2.frame = some Ll) (k2 : e2.scope.kind ≠ .module) (s2 : (fl.slots.getD 3 none).isSome = false) (r2 : fl.isFreed = false) : Cut.Ok (VW (wF w b c)) (kSp l tl Ll fl e2 (47 :: r0) (47 :: r1)) := by
  have hle : l.length = r0.length + r1.length + 3 := by subst hl; simp; omega
  have hd0 : l.drop 0 = 47 :: (r0 ++ (32 :: 47 :: r1)) := by subst hl; rfl
  have hd1 : l.drop (0 + 1 + r0.length + 1) = 47 :: (r1 ++ []) := by
    subst hl
    rw [show 0 + 1 + r0.length + 1 = (r0.length + 1) + 1 by omega, List.drop_succ_cons, List.drop_append, List.drop_of_length_le (by omega), show r0.length + 1 - r0.length = 1 by omega]
    simp
  have li : ∀ T TI a d io dio q1 q2 Ls fs e1 A ts tt tp, e1.frame = some Ls → e1.scope.kind ≠ .module → (fs.slots.getD 3 none).isSome = false → fs.isFreed = false →
      Cut.Ok (VW (wF w b c)) (kLI (wF w b c).params T TI a d io dio q1 q2 l tl Ll Ls fl fs e1 e2 (47 :: r0) (47 :: r1) A ts tt tp) := by
    intro T TI a d io dio q1 q2 Ls fs e1 A ts tt tp f1 k1 s1 r1' Ar s R hA hF hS ht hR
    have ne : A ≠ a := by
      have := hS.nd
      intro e
      subst e
      simp [kLI, liL, lexL] at this
    exact spec_tree ((liT A a).2 ne) (fun ρ τ => li_run w b c ρ τ T TI a d io dio q1 q2 l tl Ll Ls fl fs e1 e2 (47 :: r0) (47 :: r1) (0 + 1 + r0.length + 1) A ts tt tp) (Oks.cons (fun _ _ => kNx_ok (by omega) h0 hd0 (.inr ⟨_, rfl, rfl, rfl⟩) (by omega)) <|
      .cons (fun _ _ => kNx_ok (by omega) h1 hd1 (.inl ⟨rfl, rfl, by omega⟩) (by omega)) <| .cons (fun _ _ => kNe_ok (by omega) f1 f2 k1 k2 s1 s2 r1' r2) .nil) (fun ρ τ => ⟨_, rfl, [], [τ 9, τ 1, τ 5], rfl, rfl, rfl, rfl⟩) Ar s R hA hF hS ht hR
  exact spec_run (fun ρ τ => sp_run w b c ρ τ l tl Ll fl e2 (47 :: r0) (47 :: r1)) (Oks.cons (fun _ _ => kLN_ok) <|
    .cons (fun _ _ => li _ _ _ _ _ _ _ _ _ _ _ _ _ _ _ rfl (of_decide_eq_false (by kernel_rfl)) rfl rfl) .nil) fun ρ τ => ⟨[ρ 13], [τ 99, τ 100, τ 101], rfl, rfl, rfl, rfl⟩
end Mine
end
section
open PySem PySem.W PySem.W.X PyProof.Rows
set_option Elab.async false
set_option maxRecDepth 100000
set_option linter.unusedVariables false
namespace Mine
noncomputable def stW (W : List (Stp × Tok)) : Sts := W.map fun p => (stl p.1, p.2)
section
variable (P : Params) (e0 : Tok) (L tc : Addr) (ln : Nat) (l l4 : Ints) (n : Nat)
noncomputable def elE (τ : Nat → Tok) : Nat → Tok := fun k => match k with
  | 0 => e0
  | 1 => τ 10
  | 2 => τ 22
  | 3 => τ 27
  | 4 => τ 33
  | 5 => τ 47
  | 6 => τ 51
  | 7 => τ 52
  | _ => τ 53
noncomputable def elT (τ : Nat → Tok) : List Tok := [τ 33, τ 34, τ 35, τ 36, τ 37, τ 38]
noncomputable def elA (τ : Nat → Tok) := wayA n l4 (τ 23) (τ 24) (elT τ)
noncomputable def elB (τ : Nat → Tok) := wayB n l4 (τ 25) (τ 26) (elT τ)
noncomputable def elX : List Nat := sgN (iSum l) 7
noncomputable def wA (τ : Nat → Tok) : List Nat := wordO (stW (elA l4 n τ))
noncomputable def wB (τ : Nat → Tok) : List Nat := wordO (stW (elB l4 n τ))
noncomputable def elR (W : List (Stp × Tok)) : List Nat := hTxN (rowN W) (39 :: elX l)
noncomputable def elQ (τ : Nat → Tok) : Bool := elR l (elA l4 n τ) == elR l (elB l4 n τ)
noncomputable def elM (W : List (Stp × Tok)) (v : Nat) : Sts := zipT (mkN ((rowT W []).map (·.1)) (elX l)) (unl v)
noncomputable def elK : List (Of Cut) := [fun ρ τ => kSum (ρ 1) (ρ 2) 932 l ln (τ 11), fun ρ τ => kSG P L tc (ρ 6) (ρ 4) (ρ 5) (iSum l) (τ 12), fun ρ τ => kSJ [] (τ 13) (ρ 5) (zipT ((elX l).map fun c => [c]) (unl (τ 17))) (τ 18) (elX l), fun ρ τ => kLS 932 (iV l) ln (ρ 10) none (some (4, τ 28)) (iV l4),
  fun ρ τ => kSl8 P (elE e0 τ) L tc (ρ 13) 932 (ρ 0) (ρ 9) (ρ 7) (ρ 8) (elX l) (τ 21) l ln n (τ 23) (τ 24) (τ 25) (τ 26), fun ρ τ => kJC P L tc (ρ 16) (ρ 14) (ρ 15) (ρ 9) (ρ 7) (ρ 8) (stW (elA l4 n τ)) (stW (elB l4 n τ)) ((n + 1) / 2) (n / 2),
  fun ρ τ => kSJ [32] (τ 39) (ρ 15) [(wA l4 n τ, τ 40), (wB l4 n τ, τ 41)] 2 (wA l4 n τ ++ 32 :: wB l4 n τ),
  fun ρ τ => kSp (wA l4 n τ ++ 32 :: wB l4 n τ) (τ 43) L (lwF P (elE e0 τ) 932 (ρ 0) (elX l) (τ 21) (ρ 9) (slH P n (elT τ))) (lwEnv P L tc) (wA l4 n τ) (wB l4 n τ),
  fun ρ τ => kJD P L tc (ρ 20) (ρ 18) (ρ 19) (ρ 9) (ρ 7) (ρ 8) (stW (elA l4 n τ)) (stW (elB l4 n τ)) ((n + 1) / 2) (n / 2),
  fun ρ τ => kLNe (ρ 17) (ρ 19) [(wA l4 n τ, τ 45), (wB l4 n τ, τ 46)] [(wA l4 n τ, τ 48), (wB l4 n τ, τ 49)] 4 2 false,
  fun ρ τ => kBg P (elE e0 τ) (fun k => τ k) (n != 0) L tc (ρ 24) 932 (ρ 0) (ρ 9) (ρ 7) (ρ 8) (ρ 17) (ρ 21) (ρ 22) (elX l) (τ 21) (.int (.ofNat (n - 1)) (τ 34)) (bkV (τ 44)) (elA l4 n τ) (elB l4 n τ) ((n + 1) / 2) (n / 2) (τ 45) (τ 46),
  fun ρ τ => kV "str.__eq__" [sv (elR l (elA l4 n τ)) (τ 69), sv (elR l (elB l4 n τ)) (τ 62)] (.bool (elQ l l4 n τ)),
  fun ρ τ => kLE (ρ 25) (ρ 26) (elM l (elA l4 n τ) (τ 71)) (elM l (elB l4 n τ) (τ 73)) (τ 72) (τ 74) (elQ l l4 n τ),
  fun ρ τ => kV "int.__eq__" [.bool (elQ l l4 n τ), .bool (elQ l l4 n τ)] (.bool true)]
noncomputable def elD : Dyn := [(L, ⟨.type "frame", none, .dict ⟨[en P ⟨⟨[115, 99, 114, 105, 112, 116]⟩⟩ e0 (.ref 932)]⟩ 1, ⟨[]⟩⟩), (tc, cellO none), (932, listN (iV l) ln)]
noncomputable def elZ : Of Fini := fun _ _ => ⟨.inl (.ok (.ret (.bool true))), [(932, listN (iV l) ln)]⟩
end
end Mine
end
section
open PySem PySem.W PySem.W.X PyProof.Rows
set_option Elab.async false
set_option maxRecDepth 100000
set_option linter.unusedVariables false
namespace Mine
noncomputable def lw_h : List Nat := [0, 0, 0, 0, 0, 0, 0, 1, 1, 0, 1, 0, 0, 1, 1, 0, 1, 0, 0, 1, 1, 0, 1, 0, 0, 1, 1, 0, 1, 0, 0, 1, 1, 0, 1, 2, 1, 0, 0, 2, 0, 0, 4, 4, 0, 4, 0, 1, 1, 3, 5, 1, 0, 4, 3, 0, 0, 0, 0, 0, 0, 1, 1, 0, 1, 0, 1, 1, 1, 0, 1, 0, 1, 1, 1, 1, 1, 4, 1, 0, 5, 0, 2, 2, 1, 0, 1, 1, 0, 7, 6, 10, 9, 0, 0, 0, 0, 10, 9, 9, 9, 0, 9, 1, 2, 8, 0, 0, 0, 3, 0, 3, 0, 3, 0, 0, 0, 0, 1, 1, 0, 1, 0, 1, 1, 1, 0, 1, 0, 1, 1, 1, 1, 1, 6, 13, 2, 4, 5, 4, 0, 0, 1, 3, 3, 0, 3, 0, 1, 1, 6, 1, 0, 3, 3, 3, 0, 2, 2, 1, 0, 1, 1, 0, 0, 1, 1, 5, 1, 0, 1, 1, 5, 5, 0, 5, 0, 1, 1, 6, 1, 0, 5, 5, 5, 0, 2, 2, 1, 7, 1, 7, 0, 7, 1, 2, 6, 0, 7, 6, 8, 7, 9, 8, 0, 0, 0, 0, 0, 0, 1, 1, 0, 1, 0, 1, 1, 1, 0, 1, 0, 1, 1, 1, 1, 1, 9, 10, 3, 2, 18, 5, 5, 5, 2, 0, 1, 1, 2, 2, 2, 0, 2, 0, 2, 1, 2, 2, 2, 0, 2, 0, 2, 0, 1, 0, 1, 3, 3, 3, 0, 3, 0, 3, 1, 3, 3, 3, 0, 3, 0, 3, 4, 5, 4, 0, 4, 1, 2, 3, 3, 0, 1, 0, 1, 10]
noncomputable def lw_e (w : World) : List (Of Ent) := []
noncomputable def lwe_h : List Nat := [0, 0, 2, 1, 3, 1, 0, 0]
noncomputable def lwe_e (w : World) : List (Of Ent) := [fun ρ _ => entC (o931 w.params) 931 (ρ 0) [(⟨⟨[116, 111, 116, 97, 108]⟩⟩, ρ 1)] true]
end Mine
end
section
open PySem PySem.W PySem.W.X PyProof.Rows PySem.Builtin PySem.Builtin.Str
set_option Elab.async false
set_option maxRecDepth 100000
set_option linter.unusedVariables false
namespace Mine
noncomputable def lwT (P : Params) (env : Env) : Sem Flow := seqF (exF ((lwB P).take 6) env) (seqF (ifNF (stAt (lwB P) 6) env) (seqF (exF (((lwB P).drop 7).take 4) env) (seqF (retF (stAt (lwB P) 11) env) (exF [] env))))
noncomputable abbrev runLw (w : World) (ρ : Nat → Addr) (τ : Nat → Tok) (P : Params) (L tc : Addr) (K : List (Of Cut)) (es : List (Of Ent)) (Z : Of Fini) (D : Dyn) : Option (List Tm × List Tm) :=
  sim (VW w) (some []) ρ τ Z 1000 lw_h K es 40 .base (.func (lwB P) (lwEnv P L tc)) (finF (lwT P (lwEnv P L tc))) D 0 0 [] []
section
variable (w : World) (b c : Bool) (ρ : Nat → Addr) (τ : Nat → Tok) (e0 : Tok) (L tc : Addr) (ln : Nat) (v0 v1 v2 v3 : Int) (t0 t1 t2 t3 : Tok)
theorem lw0_run : Both (runLw (wF w b c) ρ τ (PW w b c) L tc (elK (PW w b c) e0 L tc ln [] [] 0) (lw_e (wF w b c)) (elZ ln []) (elD (PW w b c) e0 L tc ln [])) := by cases b <;> exact both_of (by kernel_rfl)
theorem lw1_run : Both (runLw (wF w b c) ρ τ (PW w b c) L tc (elK (PW w b c) e0 L tc ln [(v0, t0)] [(v0, t0)] 1) (lw_e (wF w b c)) (elZ ln [(v0, t0)]) (elD (PW w b c) e0 L tc ln [(v0, t0)])) := by cases b <;> exact both_of (by kernel_rfl)
theorem lw2_run : Both (runLw (wF w b c) ρ τ (PW w b c) L tc (elK (PW w b c) e0 L tc ln [(v0, t0), (v1, t1)] [(v0, t0), (v1, t1)] 2) (lw_e (wF w b c)) (elZ ln [(v0, t0), (v1, t1)]) (elD (PW w b c) e0 L tc ln [(v0, t0), (v1, t1)])) := by cases b <;> exact both_of (by kernel_rfl)
theorem lw3_run : Both (runLw (wF w b c) ρ τ (PW w b c) L tc (elK (PW w b c) e0 L tc ln [(v0, t0), (v1, t1), (v2, t2)] [(v0, t0), (v1, t1), (v2, t2)] 3) (lw_e (wF w b c)) (elZ ln [(v0, t0), (v1, t1), (v2, t2)]) (elD (PW w b c) e0 L tc ln [(v0, t0), (v1, t1), (v2, t2)])) := by cases b <;> exact both_of (by kernel_rfl)
theorem lw4_run (r : Ints) : Both (runLw (wF w b c) ρ τ (PW w b c) L tc (elK (PW w b c) e0 L tc ln ([(v0, t0), (v1, t1), (v2, t2), (v3, t3)] ++ r) [(v0, t0), (v1, t1), (v2, t2), (v3, t3)] 4) (lw_e (wF w b c)) (elZ ln ([(v0, t0), (v1, t1), (v2, t2), (v3, t3)] ++ r)) (elD (PW w b c) e0 L tc ln ([(v0, t0), (v1, t1), (v2, t2), (v3, t3)] ++ r))) := by cases b <;> exact both_of (by kernel_rfl)
theorem lwe_run (l : Ints) : Both (runFr (wF w b c) (some []) ρ τ 100 (fun ρ τ => ⟨.inr (.func (lwB (PW w b c)) (lwEnv (PW w b c) (ρ 0) (ρ 1))), elD (PW w b c) (τ 0) (ρ 0) (ρ 1) ln l⟩) lwe_h [] (lwe_e (wF w b c)) 40 (.call (.ref 931) ⟨[.ref 932], []⟩) [(932, listN (iV l) ln)]) := by cases b <;> exact both_of (by kernel_rfl)
end
end Mine
end
section
open PySem PySem.W PySem.W.X PyProof.Rows PySem.Builtin PySem.Builtin.Str
set_option Elab.async false
set_option maxRecDepth 100000
set_option linter.unusedVariables false
namespace Mine
theorem stpOf_hand {k d : Nat} (h : stpOf k = .L d) : Hand d := by
  unfold stpOf at h
  split at h <;> first | (cases h; done) | (injection h with h; subst h; unfold Hand; decide)
theorem stp_two (k : Nat) : ∀ d, stpOf k = .L d → Hand d := fun _ h => stpOf_hand h
theorem hand113 : Hand 113 := .inl rfl
theorem hand99 : Hand 99 := .inr (.inr (.inl rfl))
theorem okWay2 {x y : Nat} {t u : Tok} (hx : Hand x) (hy : Hand y) : OkWay [(.L x, t), (.L y, u)] := ⟨.z _ _, fun d h => by
  simp only [List.map_cons, List.map_nil, List.mem_cons, List.not_mem_nil, or_false, Stp.L.injEq] at h
  rcases h with rfl | rfl
  · exact hx
  · exact hy⟩
theorem okWay3 {x y : Nat} {t u v : Tok} {s : Stp} (hx : Hand x) (hy : Hand y) (hs : ∀ d, s = .L d → Hand d) : OkWay [(.L x, t), (.L y, u), (s, v)] := ⟨.o _ _ _, fun d h => by
  simp only [List.map_cons, List.map_nil, List.mem_cons, List.not_mem_nil, or_false, Stp.L.injEq] at h
  rcases h with rfl | rfl | h
  · exact hx
  · exact hy
  · exact hs d h.symm⟩
theorem okWay4 {x y : Nat} {t u v z : Tok} {s r : Stp} (hx : Hand x) (hy : Hand y) (hs : ∀ d, s = .L d → Hand d) (hr : ∀ d, r = .L d → Hand d) : OkWay [(.L x, t), (.L y, u), (s, v), (r, z)] := ⟨.t _ _ _ _, fun d h => by
  simp only [List.map_cons, List.map_nil, List.mem_cons, List.not_mem_nil, or_false, Stp.L.injEq] at h
  rcases h with rfl | rfl | h | h
  · exact hx
  · exact hy
  · exact hs d h.symm
  · exact hr d h.symm⟩
theorem okWayA (n : Nat) (l : Ints) (q c : Tok) (ts : List Tok) : OkWay (wayA n l q c ts) := by
  unfold wayA
  split
  · exact okWay2 hand113 hand99
  · exact okWay3 hand113 hand99 (stp_two _)
  · exact okWay3 hand113 hand99 (stp_two _)
  · exact okWay4 hand113 hand99 (stp_two _) (stp_two _)
theorem okWayB (n : Nat) (l : Ints) (c q : Tok) (ts : List Tok) : OkWay (wayB n l c q ts) := by
  unfold wayB
  split
  · exact okWay2 hand99 hand113
  · exact okWay2 hand99 hand113
  · exact okWay3 hand99 hand113 (stp_two _)
  · exact okWay3 hand99 hand113 (stp_two _)
  · exact okWay4 hand99 hand113 (stp_two _) (stp_two _)
theorem stl_ok {s : Stp} (h : ∀ d, s = .L d → Hand d) : (stl s ≠ [] ∧ 47 ∉ stl s) ∧ (stl s).length ≤ 2 ∧ ∀ c ∈ stl s, okc c := by
  cases s with
  | L d =>
    have hd := h d rfl
    refine ⟨⟨(fun q => nomatch q), fun q => ?_⟩, (show 1 ≤ 2 by decide), fun c hc => ?_⟩
    · rw [show stl (.L d) = [d] from rfl, List.mem_singleton] at q
      exact (hand_ne hd).2 q.symm
    · rw [show stl (.L d) = [d] from rfl, List.mem_singleton] at hc
      subst hc
      rcases hd with rfl | rfl | rfl | rfl | rfl | rfl <;> simp [okc]
  | U => exact ⟨by decide, by decide, fun c hc => by
      have : c = 46 := by
        have hc : c ∈ [46, 46] := hc
        simpa using hc
      subst this
      exact .inl (.inr rfl)⟩
  | D => exact ⟨by decide, by decide, fun c hc => by
      have : c = 46 := by
        have hc : c ∈ [46] := hc
        simpa using hc
      subst this
      exact .inl (.inr rfl)⟩
theorem way_steps {W : List (Stp × Tok)} (h : OkWay W) : ∀ x ∈ stW W, (okS x.1 ∧ x.1.length ≤ 2) ∧ ∀ c ∈ x.1, okc c := fun x hx => by
  obtain ⟨p, hp, rfl⟩ := List.mem_map.mp hx
  have := stl_ok (s := p.1) fun d e => h.hand d (by rw [← e]; exact List.mem_map_of_mem hp)
  exact ⟨⟨this.1, this.2.1⟩, this.2.2⟩
theorem way_len {W : List (Stp × Tok)} (h : OkWay W) : W.length = 2 ∨ W.length = 3 ∨ W.length = 4 := by
  have e : (W.map (·.1)).length = W.length := List.length_map ..
  have f := h.four
  generalize W.map (·.1) = l at e f
  cases f <;> (simp only [List.length_cons, List.length_nil] at e; omega)
theorem way_okW {W : List (Stp × Tok)} (h : OkWay W) : OkW (stW W) := ⟨by
  have := way_len h
  rwa [stW, List.length_map], fun x hx => (way_steps h x hx).1⟩
theorem wordO_okc : ∀ l : Sts, (∀ x ∈ l, ∀ c ∈ x.1, okc c) → ∀ c ∈ wordO l, okc c
  | [], _, _, h => nomatch h
  | p :: l, hs, c, h => by
    rcases List.mem_cons.mp h with rfl | h
    · exact .inl (.inl rfl)
    · rcases List.mem_append.mp h with h | h
      · exact hs p (.head _) c h
      · exact wordO_okc l (fun x hx => hs x (.tail _ hx)) c h
theorem way_word {W : List (Stp × Tok)} (h : OkWay W) : ∃ r, wordO (stW W) = 47 :: r ∧ (∀ c ∈ r, okc c) ∧ r.length ≤ 12 := by
  have len := wordO_len (stW W) fun x hx => (way_steps h x hx).1.2
  have okw := wordO_okc (stW W) fun x hx => (way_steps h x hx).2
  have l4 : (stW W).length ≤ 4 := by
    have := (way_okW h).n
    omega
  cases e : stW W with
  | nil =>
    have := (way_okW h).n
    rw [e] at this
    simp at this
  | cons p l =>
    rw [e] at len okw l4
    refine ⟨p.1 ++ wordO l, rfl, fun c hc => okw c (.tail _ hc), ?_⟩
    have : (wordO (p :: l)).length = (p.1 ++ wordO l).length + 1 := rfl
    omega
theorem flat_one : ∀ x : List Nat, flat (x.map fun c => [c]) = x
  | [] => rfl
  | c :: x => by
    show [c] ++ flat (x.map fun c => [c]) = _
    rw [flat_one x]
    rfl
theorem iV_take : ∀ (l : Ints) (n : Nat), (iV l).take n = iV (l.take n)
  | _, 0 => rfl
  | [], _ + 1 => rfl
  | p :: l, n + 1 => congrArg (_ :: ·) (iV_take l n)
theorem lwEnv_frame {w : World} {b c : Bool} {L tc : Addr} : (lwEnv (PW w b c) L tc).frame = some L := by cases b <;> kernel_rfl
theorem lwEnv_kind {w : World} {b c : Bool} {L tc : Addr} : (lwEnv (PW w b c) L tc).scope.kind ≠ .module := by
  have e : (lwEnv (PW w b c) L tc).scope.kind = .function := by cases b <;> kernel_rfl
  rw [e]
  exact fun q => nomatch q
theorem eq_bool {w : World} {r : Bool} : Cut.Ok (VW w) (kV "int.__eq__" [.bool r, .bool r] (.bool true)) := by
  have g := SeqAt.int___eq___bool_bool_0 r r
  have e : ((fun x1 x2 => x1 == x2) (if r = true then (1 : Int) else 0) (if r = true then (1 : Int) else 0)) = true := by cases r <;> rfl
  rw [e] at g
  exact kV_ok F.slot_bool_eq.plain F.entry_int_eq g
theorem elK_ok {w : World} {b c : Bool} {e0 : Tok} {L tc : Addr} {ln : Nat} {l l4 : Ints} {n : Nat} (hn : n = l4.length) (hn4 : n ≤ 4) (h4 : l.take 4 = l4) (hl : l.length ≤ 63) : Oks (wF w b c) (elK (PW w b c) e0 L tc ln l l4 n) := by
  have hx : OkX (elX l) := sgN_ok _
  have h38 : L38 (elX l) := sgN_38 _
  have wA := fun τ => okWayA n l4 (τ 23) (τ 24) (elT τ)
  have wB := fun τ => okWayB n l4 (τ 25) (τ 26) (elT τ)
  have hnl : n ≤ l.length := by
    rw [hn, ← h4, List.length_take]
    exact Nat.min_le_right _ _
  refine .cons (fun _ _ => kSum_ok) <| .cons (fun _ _ => kSG_ok) <| .cons (fun ρ τ => kSJ_ok ?_ ?_) <| .cons (fun ρ τ => kLS_ok ?_ ?_) <| .cons (fun _ τ => ?_) <|
    .cons (fun _ τ => kJC_ok (way_okW (wA τ)) (way_okW (wB τ))) <| .cons (fun _ τ => kSJ_ok (joined_39 32 _) ?_) <| .cons (fun _ τ => ?_) <|
    .cons (fun _ τ => kJD_ok (way_okW (wA τ)) (way_okW (wB τ))) <| .cons (fun _ _ => kLNe_ok rfl) <| .cons (fun _ τ => kBg_ok (wA τ) (wB τ) hx) <|
    .cons (fun _ _ => seq_is rfl) <| .cons (fun _ τ => kLE_ok ?_) <| .cons (fun _ _ => eq_bool) .nil
  · rw [joined_nil, zipT_map, flat_one]
  · have e : ((zipT ((elX l).map fun c => [c]) (unl (τ 17))).map fun p => p.1.length) = (elX l).map fun _ => 1 := by
      have : ((zipT ((elX l).map fun c => [c]) (unl (τ 17))).map (·.1)).map List.length = ((elX l).map fun c => [c]).map List.length := by rw [zipT_map]
      rw [List.map_map, List.map_map] at this
      exact this
    rw [e, List.length_nil, Nat.mul_zero, Nat.add_zero]
    have : ((elX l).map fun _ => 1).sum = (elX l).length := by
      generalize elX l = x
      induction x with
      | nil => rfl
      | cons c x ih => simp only [List.map_cons, List.sum_cons, ih, List.length_cons]; omega
    rw [this]
    exact Nat.le_trans hx.1 (by decide)
  · show slicePick ⟨iV l⟩ none (some ((4 : Nat) : Int)) none = ⟨iV l4⟩
    rw [slicePick_upto', ← h4, ← iV_take]
  · rw [iV_len]
    exact Nat.le_trans hl (by decide)
  · exact kSl8_ok hn4 hnl
  · obtain ⟨r0, e0', _, h0⟩ := way_word (wA τ)
    obtain ⟨r1, e1', _, h1⟩ := way_word (wB τ)
    show ([(wordO (stW (wayA n l4 (τ 23) (τ 24) (elT τ))), _), (wordO (stW (wayB n l4 (τ 25) (τ 26) (elT τ))), _)].map fun p : List Nat × Tok => p.1.length).sum + 2 * 1 ≤ sizeLine
    rw [e0', e1']
    simp only [List.map_cons, List.map_nil, List.sum_cons, List.sum_nil, List.length_cons]
    exact Nat.le_trans (show _ ≤ 100 by omega) (by decide)
  · obtain ⟨r0, e0', k0, h0⟩ := way_word (wA τ)
    obtain ⟨r1, e1', k1, h1⟩ := way_word (wB τ)
    have eA : Mine.wA l4 n τ = 47 :: r0 := e0'
    have eB : Mine.wB l4 n τ = 47 :: r1 := e1'
    rw [eA, eB]
    exact kSp_ok rfl k0 k1 (Nat.le_trans (show _ ≤ 100 by omega) (by decide)) lwEnv_frame lwEnv_kind rfl rfl
  · rw [elM, elM, zipT_map, zipT_map, rowN_is, rowN_is]
    have a := told_law (row := rowN (elA l4 n τ)) (wA τ).row hx
    have b := told_law (row := rowN (elB l4 n τ)) (wB τ).row hx
    show _ = (hTxN (rowN (elA l4 n τ)) (39 :: elX l) == hTxN (rowN (elB l4 n τ)) (39 :: elX l))
    rw [a, b, alike_law hx h38]
end Mine
end
section
open PySem PySem.W PySem.W.X PyProof.Rows PySem.Builtin PySem.Builtin.Str
set_option Elab.async false
set_option maxRecDepth 100000
set_option linter.unusedVariables false
namespace Mine
section
variable {w : World} {b c : Bool}
theorem lwB_eq : lwB (PW w b c) = (lwB (PW w b c)).take 6 ++ stAt (lwB (PW w b c)) 6 :: (((lwB (PW w b c)).drop 7).take 4 ++ stAt (lwB (PW w b c)) 11 :: []) := by cases b <;> kernel_rfl
theorem lw_ne : isNe (stAt (lwB (PW w b c)) 6) := ⟨by cases b <;> kernel_rfl, by cases b <;> kernel_rfl⟩
theorem lw_and : isAnd (stAt (lwB (PW w b c)) 11) := ⟨by cases b <;> kernel_rfl, by cases b <;> kernel_rfl, by cases b <;> kernel_rfl⟩
theorem lwT_le {w' : World} {env : Env} (Γ : Ctx) (hu : Γ.units < cLine) : Le (model pw w') Γ (execs (lwB (PW w b c)) env) (lwT (PW w b c) env) := by
  have r : Le (model pw w') Γ (execs (((lwB (PW w b c)).drop 7).take 4 ++ stAt (lwB (PW w b c)) 11 :: []) env) _ := execsF_le _ [] (retF_le hu (env := env) (lw_and (w := w) (b := b) (c := c))) .rfl
  have a := execsF_le (M := model pw w') (Γ := Γ) (env := env) ((lwB (PW w b c)).take 6) _ (ifNF_le hu (env := env) (lw_ne (w := w) (b := b) (c := c))) r
  rw [← lwB_eq] at a
  unfold lwT
  rw [exF_eq] at a ⊢
  exact a
theorem law_func {e0 : Tok} {L tc : Addr} {ln : Nat} {l : Ints} (hl : l.length ≤ 63) : Spec (VW (wF w b c)) (some []) 40 (.func (lwB (PW w b c)) (lwEnv (PW w b c) L tc)) (elD (PW w b c) e0 L tc ln l) fun R D => R = .ok (.ret (.bool true)) ∧ D = [(932, listN (iV l) ln)] := by
  refine spec_func (P₁ := fun R D => R = .ok (.ret (.bool true)) ∧ D = [(932, listN (iV l) ln)]) ?_ fun R D h => ⟨.ret (.bool true), h.1, rfl, h.2⟩
  refine SpecX.le (show 3 * 1 ≤ 10 by decide) lwT_le ?_
  have fin : ∀ {l4 : Ints} {n : Nat}, n = l4.length → n ≤ 4 → l.take 4 = l4 → (∀ ρ τ, Both (runLw (wF w b c) ρ τ (PW w b c) L tc (elK (PW w b c) e0 L tc ln l l4 n) (lw_e (wF w b c)) (elZ ln l) (elD (PW w b c) e0 L tc ln l))) →
      SpecX (VW (wF w b c)) (some []) 40 (.func (lwB (PW w b c)) (lwEnv (PW w b c) L tc)) (lwT (PW w b c) (lwEnv (PW w b c) L tc)) (elD (PW w b c) e0 L tc ln l) fun R D => R = .ok (.ret (.bool true)) ∧ D = [(932, listN (iV l) ln)] :=
    fun h1 h2 h3 H => specX_of_run (VW_ok _) H (elK_ok h1 h2 h3 hl) fun ρ τ => ⟨_, rfl, rfl, rfl⟩
  match l, hl, @fin with
  | [], _, fin => exact fin (l4 := []) (n := 0) rfl (by decide) rfl fun ρ τ => lw0_run w b c ρ τ e0 L tc ln
  | [(v0, t0)], _, fin => exact fin (l4 := [(v0, t0)]) (n := 1) rfl (by decide) rfl fun ρ τ => lw1_run w b c ρ τ e0 L tc ln v0 t0
  | [(v0, t0), (v1, t1)], _, fin => exact fin (l4 := [(v0, t0), (v1, t1)]) (n := 2) rfl (by decide) rfl fun ρ τ => lw2_run w b c ρ τ e0 L tc ln v0 v1 t0 t1
  | [(v0, t0), (v1, t1), (v2, t2)], _, fin => exact fin (l4 := [(v0, t0), (v1, t1), (v2, t2)]) (n := 3) rfl (by decide) rfl fun ρ τ => lw3_run w b c ρ τ e0 L tc ln v0 v1 v2 t0 t1 t2
  | (v0, t0) :: (v1, t1) :: (v2, t2) :: (v3, t3) :: r, _, fin => exact fin (l4 := [(v0, t0), (v1, t1), (v2, t2), (v3, t3)]) (n := 4) rfl (by decide) rfl fun ρ τ => lw4_run w b c ρ τ e0 L tc ln v0 v1 v2 v3 t0 t1 t2 t3 r
theorem law_spec {ln : Nat} {l : Ints} (hl : l.length ≤ 63) : Spec (VW (wF w b c)) (some []) 40 (.call (.ref 931) ⟨[.ref 932], []⟩) [(932, listN (iV l) ln)] fun R D => R = .ok (.ret (.bool true)) ∧ D = [(932, listN (iV l) ln)] :=
  spec_run (fun ρ τ => lwe_run w b c ρ τ ln l) Oks.nil fun ρ τ => law_func hl
end
end Mine
end
section
open PySem PySem.W PySem.W.X PyProof.Rows
set_option Elab.async false
set_option maxRecDepth 100000
set_option maxHeartbeats 8000000
namespace Mine
theorem chk' : ∀ w : World, headT (denote treeTable) pw w 13000 (fenceModules? pw) (okTop pw) (fun s => (openSeen qv looseL (importedModules pw.main.body) (fun s => xlAt qv [] s && recOk [] s) true s, obsZ kAs s)) = some (openGood qv looseL, valZ K 932 1490 w) := by
  intro w
  have e : denF = denote treeTable := by rw [← denF_eq, table_eq_tree]
  rw [← e]
  exact chk w
end Mine
end
section
open PySem PySem.W PySem.W.X PyProof.Rows
set_option Elab.async false
set_option maxRecDepth 100000
set_option linter.unusedVariables false
set_option maxHeartbeats 400000
namespace Mine
theorem k_keys : ∀ P, kAs = (K P).map (·.1) := by intro P; kernel_rfl
theorem k_top : ∀ P, KT.of (K P) = ktop P := by intro P; kernel_rfl
theorem ints_are : ∀ {vs : List Value} {ns : List Int}, IntsAre vs ns → ∃ l : Ints, vs = iV l ∧ l.length = ns.length := by
  intro vs ns h
  induction h with
  | nil => exact ⟨[], rfl, rfl⟩
  | cons n t _ ih =>
    obtain ⟨l, e, hl⟩ := ih
    exact ⟨(n, t) :: l, by rw [e]; rfl, by rw [List.length_cons, List.length_cons, hl]⟩
theorem st_of {V : SV} {h : Heap} (H : KT.Holds h 1 0 V.kt) : St V h := fun a o e => by
  unfold SV.look at e
  split at e
  · have z := KT.Holds.get H e
    rw [Nat.one_mul, Nat.add_zero] at z
    exact z
  · cases e
theorem st_top {V : SV} {h h' : Heap} {F : Frag} (e : KT.of F = V.kt) (A : AllIn h F) (k : ∀ b o, h.get? b = some o → h'.get? b = some o) : St V h' := st_of (by
  rw [← e]
  exact KT.Holds.keeps k (holds_of A))
theorem ends_of {V : SV} {s₁ : Shared} {l : Ints} {c : ClaimW} {cl : Str → Option Addr} {mean : ExcName → Option Value} {args : List WData}
    (S : Spec V (some []) 40 (.call (.ref 931) ⟨[.ref 932], []⟩) [(932, listN (iV l) 0)] fun R D => R = .ok (.ret (.bool true)) ∧ D = [(932, listN (iV l) 0)]) (st : St V s₁.heap) (hn : V.n₁ = 932) (hsz : s₁.heap.objs.size = 933) (ht : 0 < s₁.toks)
    (hol : s₁.heap.get? 932 = some (listN (iV l) 0)) (hg : s₁.gens = #[]) (hr : ∀ cls, c.raises args cls = false) (hp : c.post args (.bool true) args = true) : codeAny (model V.prog V.w) callerA (.call (.ref 931) ⟨[.ref 932], []⟩) (GoodWG c cl mean args s₁) s₁ := by
  have fit : Fit 40 callerA := ⟨by decide +kernel, by decide +kernel, rfl⟩
  have sh : Shows V [(932, listN (iV l) 0)] s₁.heap := ⟨st, by rw [hn, hsz]; decide, fun p hp => by rw [List.mem_singleton] at hp; rw [hp]; exact hol, fun p hp => by rw [List.mem_singleton] at hp; rw [hp, hn]; exact Nat.le_refl _, by simp⟩
  refine S callerA s₁ _ fit (fun l e => by cases e; rfl) sh ht fun r L' h' tk' q G _ => ?_
  obtain ⟨rfl, rfl⟩ := q
  refine ⟨.inl ⟨_, _, [], rfl, hr, ReadsW.bool true, hp, fun _ => ⟨List.nodup_nil, fun _ hm => (nomatch hm)⟩⟩, .of_keep fun b o e => ?_, rfl, .of_eq hg⟩
  by_cases hb : b = 932
  · rw [hb, hol] at e
    rw [hb, ← Option.some.inj e]
    exact G.has _ (.head _)
  · exact G.keep b o (fun q => hb (by rw [List.map_cons, List.map_nil, List.mem_singleton] at q; exact q)) e
theorem law_ends {w : World} {Rr : WRecords} {s₀ s₁ : Shared} {vals : List Value} {ns : List Int} {a : Addr} {as : List Addr} {c : ClaimW} {cl : Str → Option Addr} {mean : ExcName → Option Value} {args : List WData}
    (y : obsZ kAs s₀ = valZ Mine.K 932 1490 w) (L : Laid Rr w s₀ s₁ [ofPy (PyData.list (ns.map PyData.int))] [.ref a] as) (hL : s₁.heap.IsList a vals.toArray) (hI : IntsAre vals ns) (hlen : ns.length ≤ 63) (hg : s₁.gens = #[])
    (hr : ∀ cls, c.raises args cls = false) (hp : c.post args (.bool true) args = true) : codeAny (model pw w) callerA (.call (.ref 931) ⟨[.ref a], []⟩) (GoodWG c cl mean args s₁) s₁ := by
  obtain ⟨ZA, ZI, ZN, ZT⟩ := z_facts k_keys y
  have st : St (VW w) s₁.heap := st_top (F := K w.params) (k_top w.params) ZA L.keeps
  obtain ⟨hat, hsz⟩ := script_at L
  have htk := script_toks L ZT
  have hol := script_obj L hL
  clear ZA
  rw [ZN] at hat hsz
  rw [hat] at hol ⊢
  obtain ⟨l, e, hl⟩ := ints_are hI
  rw [e] at hol
  have S := law_spec (w := w) (b := w.params.followText "special-get-raises") (c := w.params.followText "comprehension-iter-twice") (ln := 0) (l := l) (by omega)
  rw [wF_self] at S
  exact ends_of S st rfl hsz (Nat.lt_of_lt_of_le (by decide) htk) hol hg hr hp
theorem fa_law {mg : Str → Option Value} {h : Heap} {P : Params} (X : Frag.In (K P) h) (G : h.Ns mainGlobals mg) : mg (Str.ofString "law") = some (.ref 931) := mg_of X G (by kernel_rfl)
theorem k_in {w : World} {s₀ s₁ : Shared} {Rr : WRecords} {args : List WData} {vs : List Value} {as : List Addr} (y : obsZ kAs s₀ = valZ Mine.K 932 1490 w) (L : Laid Rr w s₀ s₁ args vs as) : Frag.In (K w.params) s₁.heap :=
  InK.keeps w s₀.heap s₁.heap (z_facts k_keys y).2.1 L.keeps
theorem fa_is {mg : Str → Option Value} {h : Heap} {P : Params} {n : Str} {fa : Addr} (e : n = Str.ofString "law") (X : Frag.In (K P) h) (G : h.Ns mainGlobals mg) (hmg : mg n = some (.ref fa)) : fa = 931 := by
  rw [e, fa_law X G] at hmg
  cases hmg
  rfl
end Mine
end
section
open PySem PySem.W PySem.W.X PyProof.Rows
set_option Elab.async false
set_option maxRecDepth 100000
set_option maxHeartbeats 8000000
namespace Mine
theorem look_b : (["vars", "dir", "locals"] : List Str).filter (readsOut PySem.Challenge.pw_rt0112_01 PySem.Challenge.pw_rt0112_01.main.body) = [] := by decide +kernel
theorem look_s : (!(importedModules PySem.Challenge.pw_rt0112_01.main.body).all cThrough.contains) = false := by decide +kernel
theorem look_r : noRoadLSs { strict := false, foot := none, bare := [] } PySem.Challenge.pw_rt0112_01.main.body = true := by decide +kernel
theorem look_n : noRoadLSs { strict := !(importedModules PySem.Challenge.pw_rt0112_01.main.body).all cThrough.contains, foot := none, bare := (["vars", "dir", "locals"] : List Str).filter (readsOut PySem.Challenge.pw_rt0112_01 PySem.Challenge.pw_rt0112_01.main.body) } PySem.Challenge.pw_rt0112_01.main.body = true := by
  rw [look_b, look_s]
  exact look_r
theorem looks : looksOpen PySem.Challenge.pw_rt0112_01 = true := by
  unfold looksOpen
  repeat' (with_reducible refine look_both ?_ ?_)
  · decide +kernel
  · decide +kernel
  · decide +kernel
  · decide +kernel
  · exact look_n
  · decide +kernel
theorem row_ok : PySem.Challenge.rw_rt0112_01.row.wellSaid = true := by
  unfold OpenRow.wellSaid OpenRow.partSaid
  repeat' (with_reducible refine look_both ?_ ?_)
  · exact looks
  all_goals decide +kernel
theorem law_said : PySem.Challenge.rw_rt0112_01.wellSaid = true := by
  unfold OpenLaw.wellSaid
  repeat' (with_reducible refine look_both ?_ ?_)
  · exact row_ok
  all_goals decide +kernel
end Mine
end
open PySem PySem.W PySem.W.X PyProof.Rows
set_option Elab.async false
set_option maxRecDepth 100000
set_option maxHeartbeats 8000000
open Mine
theorem PySem.Challenge.cw_rt0112_01_holds : PySem.Challenge.rw_rt0112_01.Holds := by
  w_on
  refine holds_law law_said fun said => ?_
  refine holds_openX (q := qv) (loose := looseL) (Xt := fun s => xlAt qv [] s && recOk [] s) (XP := XL qv []) (Yf := obsZ kAs) (Ya := valZ K 932 1490) (N := 13000) (left_of chk') (fun s e => xl_of s (Bool.and_eq_true_iff.mp e).1) XL.keeps (by rfl) (by rfl) (by rfl) (fun s e => recFacts_of (Bool.and_eq_true_iff.mp e).2) (by rfl) (by first | assumption | decide +kernel) (by decide +kernel) ⟨rfl, rfl, rfl, rfl, rfl, by decide +kernel⟩ ?hw ?hc
  case hw => w_witness2
  case hc =>
    k_fill
    intro w s₀ s₁ mg mb G y fa o pm cd doc dV kV ho hd hcd hD hmg hg args vals as L hpre hlay hrd hwl hlo
    refine Ground.open G ?_
    intro T B D TE TW
    wrow_args hpre hlay hrd hwl hlo
    have hfa : fa = 931 := fa_is rfl (k_in y L) (Top.g T) hmg
    subst hfa
    refine enter_call ?_
    rename_i hcond _
    refine law_ends y L (by assumption) (by assumption) (by omega) hg (fun _ => rfl) ?_
    first | rfl | wrow_post
