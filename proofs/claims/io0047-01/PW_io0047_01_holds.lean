import PyProof.Rows.All
import Wide.All
import OpenK.AllK
import Wide.FinOn
import KE.KIntText
import Lean
import PySem.Challenge.RW_io0047_01
open PySem PySem.W PySem.W.X PySem.Calls PyProof.Rows
set_option Elab.async false
set_option maxRecDepth 100000
set_option maxHeartbeats 8000000
set_option linter.all false

namespace Mine
noncomputable def topRunT (tb : String → Option Builtin) (p : Program) (w : World) (n₀ : Nat) (ann : Option Value) : Nat → SharedT → Thread → Option SharedT
  | 0, _, _ => none
  | n + 1, s, t => match through t with
    | true => some s
    | false => match stepOk n₀ ann t with
      | false => none
      | true => match stepT (denote tb) p w s t with
        | some (s', t') => topRunT tb p w n₀ ann n s' t'
        | none => none
theorem topRun_ofT {tb : String → Option Builtin} {p : Program} {w : World} {n₀ : Nat} {ann : Option Value} : ∀ {n : Nat} {s r : SharedT} {t : Thread}, topRunT tb p w n₀ ann n s t = some r → topRun tb p w n₀ ann n s.abs t = some r.abs
  | 0, _, _, _, h => by cases h
  | n + 1, s, r, t, h => by
    unfold topRunT at h
    unfold topRun
    cases he : through t with
    | true => rw [he] at h; cases h; rfl
    | false =>
      rw [he] at h
      cases hk : stepOk n₀ ann t with
      | false => rw [hk] at h; cases h
      | true =>
        rw [hk] at h
        cases hs : stepT (denote tb) p w s t with
        | none => rw [hs] at h; cases h
        | some q => obtain ⟨s₂, t₂⟩ := q; rw [hs] at h; rw [stepT_spec hs]; exact topRun_ofT h
/-- the tree of a list of objects -/
noncomputable def plant (P : Params) : BT := ((((((((((BT.nil.ins 0 (boot_o_0 P)).ins 1 (boot_o_1 P)).ins 2 (boot_o_2 P)).ins 3 (boot_o_3 P)).ins 4 (boot_o_4 P)).ins 5 (boot_o_5 P)).ins 6 (boot_o_6 P)).ins 7 (boot_o_7 P)).ins 8 (boot_o_8 P)).ins 9 (boot_o_9 P)).ins 10 (boot_o_10 P)
theorem plant_eq (P : Params) : absHeap (plant P) 11 {} = boot_heap P := by kernel_rfl
noncomputable def startT (w : World) (os : OsState) : SharedT := ⟨plant w.params, 11, {}, #[], boot_drawn, boot_toks, os⟩
/-- what is asked of the heap behind the top -/
noncomputable def asked (q : Program) (loose : List Str) (Xt : Shared → Bool) (as : List Addr) (p : Program) (P : Params) (s : Shared) :=
  ((staticsOk (importedModules p.main.body) (boot_heap P) s.heap && namesBound p s.heap && gensDone s && laidKept (boot_heap P) s.heap), openSeen q loose (importedModules p.main.body) Xt true s, as.map s.heap.get?)
theorem left_of {p q : Program} {loose : List Str} {Xt : Shared → Bool} {as : List Addr} {Ya : World → List (Option Obj)} {N : Nat} {ann : Option Value}
    (open_ : ∀ w : World, (fencedOpening treeTable p w N).map (fun s => (s.heap, s.gens, s.drawn, s.toks)) = some (boot_heap w.params, #[], boot_drawn, boot_toks))
    (size : ∀ w : World, ((boot_heap w.params).isNs mainGlobals && (#[] : Array GenState).size == 0, (boot_heap w.params).objs.size, (boot_heap w.params).nsMap mainGlobals "__annotations__") = (true, 11, ann))
    (run : ∀ (w : World) (os : OsState), (topRunT treeTable p w 11 ann N (startT w os) (topStub p)).map (fun s => asked q loose Xt as p w.params s.abs) = some (true, openGood q loose, Ya w)) :
    LeftO p q loose Xt (fun s => as.map s.heap.get?) Ya N := fun w => by
  obtain ⟨⟨h, gs, d, k, os⟩, e, e'⟩ := Option.map_eq_some_iff.mp (open_ w)
  obtain ⟨rfl, rfl, rfl, rfl⟩ : h = boot_heap w.params ∧ gs = #[] ∧ d = boot_drawn ∧ k = boot_toks := by simpa using e'
  obtain ⟨z1, z2, z3⟩ : _ ∧ _ ∧ _ := by simpa only [Prod.mk.injEq] using size w
  obtain ⟨r, r1, r2⟩ := Option.map_eq_some_iff.mp (run w os)
  obtain ⟨l1, l2, l3⟩ : _ ∧ _ ∧ _ := by simpa only [asked, Prod.mk.injEq] using r2
  have r3 := topRun_ofT r1
  have hs : (startT w os).abs = ⟨boot_heap w.params, #[], boot_drawn, boot_toks, os⟩ := by
    show Shared.mk _ _ _ _ _ = _
    rw [show absHeap (startT w os).tree (startT w os).n (startT w os).life = boot_heap w.params from plant_eq w.params]
    rfl
  rw [hs] at r3
  have t : topFrom treeTable p w N ⟨boot_heap w.params, #[], boot_drawn, boot_toks, os⟩ = some r.abs := by
    unfold topFrom
    dsimp only
    rw [z1, z2, z3, r3]
    show (match staticsOk (importedModules p.main.body) (boot_heap w.params) r.abs.heap && namesBound p r.abs.heap && gensDone r.abs && laidKept (boot_heap w.params) r.abs.heap with | true => _ | false => _) = _
    rw [l1]
  unfold openEnds
  rw [e]
  show (topFrom treeTable p w N _).map _ = _
  rw [t]
  exact congrArg some (Prod.ext l2 l3)
theorem open0 {p : Program} {N : Nat} (e : opening p = plainProg p.main.scope.names) (hN : Nat.ble 600 N = true) (f : ∀ s, fenceModules? p s = some s) :
    ∀ w : World, (fencedOpening treeTable p w N).map (fun s => (s.heap, s.gens, s.drawn, s.toks)) = some (boot_heap w.params, #[], boot_drawn, boot_toks) := boot_open e hN f
noncomputable def vw : Program := view PySem.Challenge.pw_io0047_01 [0,2,3,4,5,6,7,9,10,11,12,13,15,16]
noncomputable def looseQ : List Str := [Str.ofString "MessageDefect", Str.ofString "TokenList", Str.ofString "Section", Str.ofString "Terminal", Str.ofString "ValueTerminal"]
noncomputable def run0 (as : List Addr) (w : World) (os : OsState) :=
  (topRunT treeTable PySem.Challenge.pw_io0047_01 w 11 (some (.ref 6)) 7224 (startT w os) (topStub PySem.Challenge.pw_io0047_01)).map fun s =>
    asked vw looseQ (fun s => xlAt vw [] s && recOk (RowW.records (OpenRow.toRowW PySem.Challenge.rw_io0047_01.row)) s) as PySem.Challenge.pw_io0047_01 w.params s.abs
noncomputable def good0 := openGood vw looseQ
noncomputable def probe : Bool := (fun (_ : List Addr → World → OsState → Option _) => true) run0 && (fun _ => true) good0
theorem probe_ok : probe = true := by k_qdec
theorem lay0 : ∀ w : World, (fencedOpening treeTable PySem.Challenge.pw_io0047_01 w 7224).map (fun s => (s.heap, s.gens, s.drawn, s.toks)) = some (boot_heap w.params, #[], boot_drawn, boot_toks) :=
  boot_open (by kernel_rfl) (by kernel_rfl) (fun s => by kernel_rfl)
theorem size0 : ∀ w : World, ((boot_heap w.params).isNs mainGlobals && (#[] : Array GenState).size == 0, (boot_heap w.params).objs.size, (boot_heap w.params).nsMap mainGlobals "__annotations__") = (true, 11, some (.ref 6)) := fun w => by kernel_rfl
theorem left0 {as : List Addr} {Ya : World → List (Option Obj)} (h : ∀ (w : World) (os : OsState), PySem.W.Fast.tw13864702844650992941 as w os = some (true, PySem.W.Fast.tw10266625884009516012, Ya w)) :
    LeftO PySem.Challenge.pw_io0047_01 vw looseQ (fun s => xlAt vw [] s && recOk (RowW.records (OpenRow.toRowW PySem.Challenge.rw_io0047_01.row)) s) (fun s => as.map s.heap.get?) Ya 7224 :=
  left_of lay0 size0 fun w os => by
    have e : PySem.W.Fast.tw10266625884009516012 = openGood vw looseQ := PySem.W.Fast.te10266625884009516012.symm
    rw [← e]
    exact (congrFun (congrFun (congrFun PySem.W.Fast.te13864702844650992941 as) w) os).trans (h w os)
local macro_rules | `(tactic| k_head) => `(tactic| x_head)
set_option hygiene false in
local macro_rules | `(tactic| o_head $H) => `(tactic| (
  refine holds_open (q := Mine.vw) (loose := Mine.looseQ) (Xt := fun s => xlAt Mine.vw [] s && recOk (RowW.records (OpenRow.toRowW PySem.Challenge.rw_io0047_01.row)) s) (XP := XL Mine.vw []) (Yf := Hook.obs $H) (Ya := Hook.val $H) (YP := Hook.says $H) (N := 7224) ?hl (Hook.of $H) (Hook.keeps $H) (fun s e => xl_of s (Bool.and_eq_true_iff.mp e).1) XL.keeps (by rfl) (by rfl) (by rfl) (fun s e => recFacts_of (Bool.and_eq_true_iff.mp e).2) (by rfl) (by first | assumption | decide +kernel) (by decide +kernel) ⟨rfl, rfl, rfl, rfl, rfl, by decide +kernel⟩ ?hw ?hc
  case hl => exact Mine.left0 (fun w os => by kernel_rfl)))
open_top hd for PySem.Challenge.rw_io0047_01
end Mine

namespace Mine

noncomputable abbrev DD : Code → Sem Fin := PySem.W.Fast.tw11892475500146522536 PySem.W.Fast.tw14364793385576792824
theorem DD_eq : DD = denote table := by
  show PySem.W.Fast.tw11892475500146522536 PySem.W.Fast.tw14364793385576792824 = denote table
  rw [table_eq_tree, ← PySem.W.Fast.te14364793385576792824, ← PySem.W.Fast.te11892475500146522536]

noncomputable def noFloat : Value → Bool
  | .float .. => false
  | _ => true
/-- the signs of an int's text -/
noncomputable def digs (a : Int) : List Nat := (Str.ofString (toString a)).cps.toList
/-- what a run leaves to be shown -/
inductive Dsc where
  | add (a b : Str)
  | eq (a b : Str)
  | ne (a b : Str)
  | dig (a : Str)
  | nodig (a : Str)
  | size (l : List Nat)
  | small (n : Int)
  | txt (x : Str)
  | str (x : Str)
  | diff (x y : Value)
  | repr (a : Int)
  | addr (a b : Nat)
  | fmt (n : Nat) (l : List Nat)
  | join (a b c : Str)
  | gt (a b : Int)
  | mod (a b : Int) (k : Nat)
  | code (a b : Code)
  | le (a b : Nat)
noncomputable def Dsc.P : Dsc → Prop
  | .add a b => a.length ≠ 0 ∧ b.length ≠ 0 ∧ a.length + b.length ≤ sizeLine
  | .eq a b => a.cps.toList = b.cps.toList
  | .ne a b => a.cps.toList ≠ b.cps.toList
  | .dig a => a.cps.toList ≠ [] ∧ a.cps.all Unicode.isDigit = true
  | .nodig a => a.cps.all Unicode.isDigit = false
  | .size l => l.length ≤ sizeLine
  | .small n => 0 ≤ n ∧ n < 2 ^ 63
  | .txt x => x.length ≤ 640 ∧ (PySem.intText? x).isSome = true
  | .str x => x.length ≤ sizeLine
  | .diff x y => x ≠ y ∧ noFloat x = true
  | .repr a => a.natAbs.log2 < 1920 ∧ (digs a).length ≤ sizeLine
  | .addr a b => a ≠ b
  | .fmt n l => Builtin.Str.tooLong n = false ∧ l.length ≤ sizeLine
  | .join s₁ p s₂ => Builtin.Str.tooLong (#[s₁, s₂].foldl (· + ·.length + p.length) 0) = false ∧ Builtin.Str.glued p [s₁, s₂] = ⟨⟨s₁.cps.toList ++ p.cps.toList ++ s₂.cps.toList⟩⟩ ∧ (s₁.cps.toList ++ p.cps.toList ++ s₂.cps.toList).length ≤ sizeLine
  | .gt a b => a > b
  | .mod a b k => b ≠ 0 ∧ Int.fmod a b = Int.ofNat k
  | .code a b => a = b
  | .le a b => a ≤ b
inductive Ob where
  | eq (a b : Nat)
  | pr (p : Dsc)
structure St where
  b : Nat
  t : Nat
  news : List (Addr × Obj)
  m : Nat
  i : Nat
  hs : List Nat
  eq : List Ob
  ch : List (Addr × Obj)
  gl : List GenState
inductive Out (α : Type) where
  | stop (n : Nat)
  | ok (a : α) (st : St)
  | err (e : Value) (st : St)
  | yld (v : Value) (l : List Value) (k : Resume → Sem α) (c : Code) (p : Pos) (st : St)
inductive SOut where
  | stop (n : Nat)
  | fin (e : End) (st : St)

inductive Ph : Type 1 where
  | done (t : Sem Fin)
  | stop
  | need (q : Dsc) (p : Ph)
  | hint (f : Nat → Ph)
  | andThen (β : Type) (m : Sem β) (f : β → Ph)
  | tryT (β : Type) (m : Sem β) (f : β → Ph) (g : Value → Ph)
  | throw (e : Value)
  | any (f : List (Code × Pos) → Ph)

structure Cfg where
  T : Code → Sem Fin
  D : Around → Code → Ph
  prog : Program
  w : World
  K : Frag
  off : List Nat
  h₀ : Heap
  g : Array GenState
  d : Drawn
  os : OsState
  sm : Nat → Around → Code → St → Option (Result × St)

noncomputable def look : Frag → Nat → Option Obj
  | [], _ => none
  | p :: r, a => match Nat.beq a p.1 with
    | true => some p.2
    | false => look r a
theorem look_eq : ∀ (K : Frag) (a : Nat) {o : Obj}, look K a = some o → K.lookup a = some o
  | [], _, _, h => by cases h
  | (b, ob) :: r, a, o, h => by
    unfold look at h
    show (match a == b with | true => some ob | false => r.lookup a) = some o
    cases q : Nat.beq a b with
    | true =>
      rw [q] at h
      have : a = b := Nat.eq_of_beq_eq_true q
      subst this
      rw [beq_self_eq_true]
      exact h
    | false =>
      rw [q] at h
      have : (a == b) = false := by
        have := Nat.ne_of_beq_eq_false q
        simpa using this
      rw [this]
      exact look_eq r a h

noncomputable def offB : List Nat → Nat → Bool
  | [], _ => false
  | x :: l, a => match Nat.beq a x with
    | true => true
    | false => offB l a
noncomputable abbrev Sk := Nat → Pos × List (Code × Pos)
noncomputable def Sk.l (x : Sk) : Sk := fun n => x (2 * n)
noncomputable def Sk.r (x : Sk) : Sk := fun n => x (2 * n + 1)
noncomputable def Sk.mk (x y : Sk) : Sk := fun n => if n % 2 = 0 then x (n / 2) else y (n / 2)
theorem Sk.mk_l (x y : Sk) : (Sk.mk x y).l = x := by
  funext n
  unfold Sk.l Sk.mk
  rw [if_pos (by omega)]; congr 1; omega
theorem Sk.mk_r (x y : Sk) : (Sk.mk x y).r = y := by
  funext n
  unfold Sk.r Sk.mk
  rw [if_neg (by omega)]; congr 1; omega
noncomputable def Sk.cons (p : Pos × List (Code × Pos)) (x : Sk) : Sk := fun n => match n with | 0 => p | n + 1 => x n
noncomputable def Sk.t (x : Sk) : Sk := fun n => x (n + 1)

noncomputable abbrev RunTy := Around → Code → (α : Type) → Sem α → St → Sk → Out α

noncomputable abbrev LoopTy := Around → Code → St → Sk → Out Result
noncomputable def runPh (R : RunTy) (A : Around) (c : Code) (p : Ph) : St → Sk → Out Fin := match p with
  | .done t => fun st sk => R A c Fin t st sk
  | .stop => fun _ _ => .stop 53
  | .need q p => fun st sk => match st with
    | ⟨b, t, news, m, i, hs, eq, ch, gl⟩ => runPh R A c p ⟨b, t, news, m, i, hs, .pr q :: eq, ch, gl⟩ sk
  | .hint f => fun st sk => match st with
    | ⟨b, t, news, m, i, hs, eq, ch, gl⟩ => match hs with
      | [] => .stop 54
      | h :: hs => runPh R A c (f h) ⟨b, t, news, m, i, hs, eq, ch, gl⟩ sk
  | .andThen β m f => fun st sk => match R A c β m st sk.l with
    | .ok b st' => runPh R A c (f b) st' sk.r
    | .err _ _ => .stop 52
    | .yld .. => .stop 55
    | .stop x => .stop x
  | .tryT β m f g => fun st sk => match R A c β m st sk.l with
    | .ok b st' => runPh R A c (f b) st' sk.r
    | .err e st' => runPh R A c (g e) st' sk.r
    | .yld .. => .stop 55
    | .stop x => .stop x
  | .throw e => fun st _ => .err e st
  | .any f => fun st sk => runPh R A c (f (sk 0).2) st sk.t
termination_by structural p
noncomputable def codeStep (D : Around → Code → Ph) (R : RunTy) (L : LoopTy) : LoopTy := fun A c st sk => match runPh R A c (D A c) st sk.l with
    | .ok fin st' => match fin with
      | .done f => .ok (.ok f) st'
      | .again c' => match c'.quiet with
        | true => L A c' st' sk.r
        | false => .stop 51
    | .err e st' => .ok (.error e) st'
    | .yld .. => .stop 56
    | .stop x => .stop x
noncomputable def codeLoop (D : Around → Code → Ph) (R : RunTy) (n : Nat) : LoopTy := match n with
  | 0 => fun _ _ _ _ => .stop 50
  | n + 1 => codeStep D R (codeLoop D R n)
termination_by structural n

/-- a woken generator, to its next yield or its end -/
noncomputable def segLoop (T : Code → Sem Fin) (R : RunTy) (n : Nat) : Around → Code → Sem Fin → St → Sk → SOut := match n with
  | 0 => fun _ _ _ _ _ => .stop 57
  | n + 1 => fun A c t st sk => match R A c Fin t st sk.l with
    | .ok fin st' => match fin with
      | .done f => .fin (.ret (.ok f)) st'
      | .again c' => match c'.quiet with
        | true => segLoop T R n A c' (T c') st' sk.r
        | false => .stop 51
    | .err e st' => .fin (.ret (.error e)) st'
    | .yld v l k c' p st' => .fin (.susp v false l k c' p []) st'
    | .stop x => .stop x
termination_by structural n

noncomputable def takeObj {β : Type} (V : Cfg) (a : Nat) (st : St) (k : Obj → St → β) (no : Nat → β) : β := match st with
  | ⟨b, t, news, m, i, hs, eq, ch, gl⟩ => match hs with
    | [] => no 60
    | h :: hs => match h with
      | 0 => match look V.K a with
        | some o => match (!offB V.off a && (hasCls o || away ch a)) with
          | true => k o ⟨b, t, news, m, i, hs, eq, ch, gl⟩
          | false => no 61
        | none => no a
      | j + 1 => match (match Nat.blt j 1000 with | true => news[j]? | false => ch[j - 1000]?) with
        | some p => k p.2 ⟨b, t, news, m, i, hs, Ob.eq a p.1 :: eq, ch, gl⟩
        | none => no 63

/-- where a generator goes on -/
noncomputable def segStart (T : Code → Sem Fin) (gs : GenState) (r : Resume) : Option (Code × Sem Fin) := match gs with
  | .fresh c₀ => match r with
    | .send v => match v with
      | .none => some (c₀, T c₀)
      | _ => none
    | .throw _ => none
  | .suspended k₀ _ c₀ _ fs₀ _ => match fs₀ with
    | [] => some (c₀, k₀ r)
    | _ :: _ => none
  | _ => none
noncomputable def growB (o o' : Obj) : Bool := match tabOf o with
  | some vs => match vs.toList with
    | [] => (tabOf o').isSome
    | _ :: _ => false
  | none => false
noncomputable def step (V : Cfg) (R : RunTy) : RunTy := fun A c α t st sk => match t with
  | .pure a => .ok a st
  | .raise e => .err e st
  | .rule _ k => R A c α (k ()) st sk
  | .at _ k => R A c α (k ()) st sk
  | .point _ k => R A c α (k ()) st sk
  | .ask k => R A c α (k ⟨V.prog, V.w.params⟩) st sk
  | .load a _ k => takeObj V a st (fun o st => R A c α (k o) st sk) .stop
  | .loadIfAlive a k => takeObj V a st (fun o st => R A c α (k (some o)) st sk) .stop
  | .alloc o k => match st with
    | ⟨b, t, news, m, i, hs, eq, ch, gl⟩ => match o.isFreed with
      | true => .stop 3
      | false => R A c α (k (b + m)) ⟨b, t, (b + m, o) :: news, m + 1, i, hs, eq, ch, gl⟩ sk
  | .update a _ f k => match st with
    | ⟨b, t, news, m, i, hs, eq, ch, gl⟩ => match hs with
      | [] => .stop 6
      | h :: hs => match h with
        | 0 => .stop 5
        | j + 1 => match Nat.blt j 1000 with
          | true => match news[j]? with
            | some p => match (f p.2).isFreed with
              | true => .stop 4
              | false => R A c α (k ()) ⟨b, t, news.set j (p.1, f p.2), m, i, hs, Ob.eq a p.1 :: eq, ch, gl⟩ sk
            | none => .stop 5
          | false => match ch[j - 1000]? with
            | some p => match growB p.2 (f p.2) with
              | true => R A c α (k ()) ⟨b, t, news, m, i, hs, Ob.eq a p.1 :: eq, ch.set (j - 1000) (p.1, f p.2), gl⟩ sk
              | false => .stop 4
            | none => .stop 5
  | .fresh k => match st with
    | ⟨b, t, news, m, i, hs, eq, ch, gl⟩ => R A c α (k (t + i)) ⟨b, t, news, m, i + 1, hs, eq, ch, gl⟩ sk
  | .handled own k => match own with
    | false => R A c α (k A.handled) st sk
    | true => .stop 7
  | .stack k => R A c α (k ((c, (sk 0).1) :: (sk 0).2)) st sk.t
  | .call c' hd _ _ k => match okMark hd with
    | false => .stop 8
    | true => match st with
      | ⟨b, t, news, m, i, hs, eq, ch, gl⟩ => match hs with
        | [] => .stop 9
        | h :: hs => match h with
          | 0 => match codeLoop V.D R 100 ((A.under c).mark hd) c' ⟨b, t, news, m, i, hs, eq, ch, gl⟩ sk.l with
            | .ok r st' => R A c α (k r) st' sk.r
            | .err _ _ => .stop 10
            | .yld .. => .stop 10
            | .stop x => .stop x
          | j + 1 => match V.sm j ((A.under c).mark hd) c' ⟨b, t, news, m, i, hs, eq, ch, gl⟩ with
            | some (r, st') => R A c α (k r) st' sk
            | none => .stop 11
  | .unsupported _ => .stop 12
  | .finish _ => .stop 13
  | .register .. => .stop 14
  | .choose .. => .stop 15
  | .os .. => .stop 16
  | .newGen c' k => match st with
    | ⟨b, t, news, m, i, hs, eq, ch, gl⟩ => R A c α (k (V.g.size + gl.length)) ⟨b, t, news, m, i, hs, eq, ch, gl ++ [.fresh c']⟩ sk
  | .genState g k => match st with
    | ⟨b, t, news, m, i, hs, eq, ch, gl⟩ => match hs with
      | [] => .stop 18
      | h :: hs => match gl[h]? with
        | some gs => R A c α (k gs.seen) ⟨b, t, news, m, i, hs, Ob.eq g (V.g.size + h) :: eq, ch, gl⟩ sk
        | none => .stop 18
  | .resume g r _ k => match st with
    | ⟨b, t, news, m, i, hs, eq, ch, gl⟩ => match hs with
      | [] => .stop 19
      | h :: hs => match gl[h]? with
        | some gs => match segStart V.T gs r with
          | some (c₀, t₀) => match segLoop V.T R 100 (A.under c) c₀ t₀ ⟨b, t, news, m, i, hs, Ob.eq g (V.g.size + h) :: eq, ch, gl.set h .running⟩ sk.l with
            | .fin e st' => match st' with
              | ⟨b, t, news, m, i, hs, eq, ch, gl⟩ => R A c α (k e.result) ⟨b, t, news, m, i, hs, eq, ch, gl.set h e.genState⟩ sk.r
            | .stop x => .stop x
          | none => .stop 19
        | none => .stop 19
  | .yield v gd l k => match gd with
    | true => .stop 20
    | false => .yld v l k c (sk 0).1 st
  | .fork .. => .stop 21
  | .thread _ => .stop 22
  | .await .. => .stop 23

noncomputable def run (V : Cfg) (n : Nat) : RunTy := match n with
  | 0 => fun _ _ _ _ _ _ => .stop 100
  | n + 1 => step V (run V n)
termination_by structural n

noncomputable def Ob.Ok : Ob → Prop
  | .eq a b => a = b
  | .pr p => p.P
noncomputable def EqOk : List Ob → Prop
  | [] => True
  | p :: l => p.Ok ∧ EqOk l
theorem EqOk.tail {p : Ob} {l : List Ob} (h : EqOk (p :: l)) : EqOk l := h.2
noncomputable def eqL : List Ob → List Nat
  | [] => []
  | .eq a _ :: l => a :: eqL l
  | .pr _ :: l => eqL l
noncomputable def eqR : List Ob → List Nat
  | [] => []
  | .eq _ b :: l => b :: eqR l
  | .pr _ :: l => eqR l
noncomputable def prL : List Ob → List Dsc
  | [] => []
  | .eq _ _ :: l => prL l
  | .pr p :: l => p :: prL l
noncomputable def AllP : List Dsc → Prop
  | [] => True
  | p :: l => p.P ∧ AllP l
theorem eqOk_of : ∀ {l : List Ob}, eqL l = eqR l → AllP (prL l) → EqOk l
  | [], _, _ => trivial
  | .eq a b :: l, h, n => by
    unfold eqL eqR at h
    injection h with h1 h2
    exact ⟨h1, eqOk_of h2 n⟩
  | .pr p :: l, h, n => ⟨n.1, eqOk_of (l := l) h n.2⟩

structure Rep (V : Cfg) (st : St) (s : Shared) : Prop where
  mem : Mem V.h₀ s.heap st.ch st.news
  size : s.heap.objs.size = st.b + st.m
  gens : s.gens.toList = V.g.toList ++ st.gl
  dr : s.drawn = V.d
  tk : s.toks = st.t + st.i
  os : s.os = V.os

noncomputable def Out.Fine {α : Type} (V : Cfg) (Q : α → Shared → Prop) (E : Value → Shared → Prop) : Out α → Prop
  | .stop _ => False
  | .ok a st => EqOk st.eq ∧ ∀ s, Rep V st s → Q a s
  | .err e st => EqOk st.eq ∧ ∀ s, Rep V st s → E e s
  | .yld .. => False

noncomputable def Out.Ext (l : List Ob) {α : Type} : Out α → Prop
  | .stop _ => True
  | .ok _ st => EqOk st.eq → EqOk l
  | .err _ st => EqOk st.eq → EqOk l
  | .yld _ _ _ _ _ st => EqOk st.eq → EqOk l
noncomputable def SOut.Ext (l : List Ob) : SOut → Prop
  | .stop _ => True
  | .fin _ st => EqOk st.eq → EqOk l
theorem Out.Ext.weak {l l' : List Ob} (h : EqOk l → EqOk l') {α : Type} {o : Out α} (x : o.Ext l) : o.Ext l' := by
  cases o with
  | stop => trivial
  | ok => exact fun z => h (x z)
  | err => exact fun z => h (x z)
  | yld => exact fun z => h (x z)
theorem SOut.Ext.weak {l l' : List Ob} (h : EqOk l → EqOk l') {o : SOut} (x : o.Ext l) : o.Ext l' := by
  cases o with
  | stop => trivial
  | fin => exact fun z => h (x z)
theorem Out.Fine.eq {V : Cfg} {α : Type} {Q : α → Shared → Prop} {E : Value → Shared → Prop} {l : List Ob} {o : Out α} (x : o.Fine V Q E) (e : o.Ext l) : EqOk l := by
  cases o with
  | stop => cases x
  | ok => exact e x.1
  | err => exact e x.1
  | yld => cases x
noncomputable def Ex (R : RunTy) : Prop := ∀ A c α t st sk, (R A c α t st sk).Ext st.eq
noncomputable def SmEx (V : Cfg) : Prop := ∀ j A c st r st', V.sm j A c st = some (r, st') → EqOk st'.eq → EqOk st.eq

theorem runPh_ext {R : RunTy} (hR : Ex R) (A : Around) (c : Code) (p : Ph) : ∀ st sk, (runPh R A c p st sk).Ext st.eq := by
  induction p with
  | done t => exact fun st sk => hR A c Fin t st sk
  | stop => exact fun _ _ => trivial
  | need q p ih =>
    intro st sk
    obtain ⟨b, t, news, m, i, hs, eq, ch, gl⟩ := st
    exact (ih ⟨b, t, news, m, i, hs, .pr q :: eq, ch, gl⟩ sk).weak EqOk.tail
  | hint f ih =>
    intro st sk
    obtain ⟨b, t, news, m, i, hs, eq, ch, gl⟩ := st
    unfold runPh
    cases hs with
    | nil => trivial
    | cons h hs => exact ih h ⟨b, t, news, m, i, hs, eq, ch, gl⟩ sk
  | andThen β m f ih =>
    intro st sk
    unfold runPh
    have z := hR A c β m st sk.l
    split
    · rename_i b st' e; rw [e] at z; exact (ih b st' sk.r).weak z
    · trivial
    · trivial
    · trivial
  | tryT β m f g ih ih' =>
    intro st sk
    unfold runPh
    have z := hR A c β m st sk.l
    split
    · rename_i b st' e; rw [e] at z; exact (ih b st' sk.r).weak z
    · rename_i b st' e; rw [e] at z; exact (ih' b st' sk.r).weak z
    · trivial
    · trivial
  | throw e => exact fun _ _ z => z
  | any f ih => exact fun st sk => ih (sk 0).2 st sk.t

theorem codeLoop_ext (D : Around → Code → Ph) {R : RunTy} (hR : Ex R) : ∀ n A c st sk, (codeLoop D R n A c st sk).Ext st.eq
  | 0, _, _, _, _ => trivial
  | n + 1, A, c, st, sk => by
    show (codeStep D R (codeLoop D R n) A c st sk).Ext st.eq
    unfold codeStep
    have z := runPh_ext hR A c (D A c) st sk.l
    split
    · rename_i fin st' e
      rw [e] at z
      split
      · exact z
      · split
        · exact (codeLoop_ext D hR n A _ st' sk.r).weak z
        · trivial
    · rename_i x st' e; rw [e] at z; exact z
    · trivial
    · trivial
theorem segLoop_ext (T : Code → Sem Fin) {R : RunTy} (hR : Ex R) : ∀ n A c t st sk, (segLoop T R n A c t st sk).Ext st.eq
  | 0, _, _, _, _, _ => trivial
  | n + 1, A, c, t, st, sk => by
    unfold segLoop
    have z := hR A c Fin t st sk.l
    split
    · rename_i fin st' e
      rw [e] at z
      split
      · exact z
      · split
        · exact (segLoop_ext T hR n A _ _ st' sk.r).weak z
        · trivial
    · rename_i x st' e; rw [e] at z; exact z
    · rename_i v l k c' p st' e; rw [e] at z; exact z
    · trivial

theorem takeObj_ext {V : Cfg} {α : Type} {a : Nat} {st : St} {k : Obj → St → Out α} (h : ∀ o st, (k o st).Ext st.eq) : (takeObj V a st k .stop).Ext st.eq := by
  obtain ⟨b, t, news, m, i, hs, eq, ch, gl⟩ := st
  cases hs with
  | nil => trivial
  | cons x hs =>
    cases x with
    | zero =>
      unfold takeObj
      dsimp only
      split
      · split
        · exact h _ ⟨b, t, news, m, i, hs, eq, ch, gl⟩
        · trivial
      · trivial
    | succ j =>
      unfold takeObj
      dsimp only
      split
      · rename_i p _; exact (h p.2 ⟨b, t, news, m, i, hs, Ob.eq a p.1 :: eq, ch, gl⟩).weak EqOk.tail
      · trivial

theorem step_ext {V : Cfg} (hS : SmEx V) {R : RunTy} (hR : Ex R) : Ex (step V R) := by
  intro A c α t st sk
  cases t with
  | pure a => exact fun z => z
  | raise e => exact fun z => z
  | rule _ k => exact hR ..
  | «at» _ k => exact hR ..
  | point _ k => exact hR ..
  | ask k => exact hR ..
  | load a _ k => exact takeObj_ext fun _ _ => hR ..
  | loadIfAlive a k => exact takeObj_ext fun _ _ => hR ..
  | alloc o k =>
    obtain ⟨b, t, news, m, i, hs, eq, ch, gl⟩ := st
    unfold step
    dsimp only
    split
    · trivial
    · exact hR A c α _ ⟨b, t, (b + m, o) :: news, m + 1, i, hs, eq, ch, gl⟩ _
  | update a q f k =>
    obtain ⟨b, t, news, m, i, hs, eq, ch, gl⟩ := st
    unfold step
    cases hs with
    | nil => trivial
    | cons x hs =>
      cases x with
      | zero => trivial
      | succ j =>
        dsimp only
        split
        · split
          · rename_i p _
            split
            · trivial
            · exact (hR A c α _ ⟨b, t, news.set j (p.1, f p.2), m, i, hs, Ob.eq a p.1 :: eq, ch, gl⟩ _).weak EqOk.tail
          · trivial
        · split
          · rename_i p _
            split
            · exact (hR A c α _ ⟨b, t, news, m, i, hs, Ob.eq a p.1 :: eq, ch.set (j - 1000) (p.1, f p.2), gl⟩ _).weak EqOk.tail
            · trivial
          · trivial
  | fresh k =>
    obtain ⟨b, t, news, m, i, hs, eq, ch, gl⟩ := st
    exact hR A c α _ ⟨b, t, news, m, i + 1, hs, eq, ch, gl⟩ _
  | handled own k =>
    cases own with
    | true => trivial
    | false => exact hR ..
  | stack k => exact hR ..
  | call c' hd g l k =>
    unfold step
    dsimp only
    split
    · trivial
    · obtain ⟨b, t, news, m, i, hs, eq, ch, gl⟩ := st
      cases hs with
      | nil => trivial
      | cons x hs =>
        cases x with
        | zero =>
          dsimp only
          have z := codeLoop_ext V.D hR 100 ((A.under c).mark hd) c' ⟨b, t, news, m, i, hs, eq, ch, gl⟩ sk.l
          split
          · rename_i r st' e; rw [e] at z; exact (hR A c α _ _ _).weak z
          · trivial
          · trivial
          · trivial
        | succ j =>
          dsimp only
          split
          · rename_i r st' e; exact (hR A c α _ _ _).weak (hS _ _ _ _ _ _ e)
          · trivial
  | newGen c' k =>
    obtain ⟨b, t, news, m, i, hs, eq, ch, gl⟩ := st
    exact hR A c α _ ⟨b, t, news, m, i, hs, eq, ch, gl ++ [.fresh c']⟩ _
  | genState g k =>
    obtain ⟨b, t, news, m, i, hs, eq, ch, gl⟩ := st
    unfold step
    cases hs with
    | nil => trivial
    | cons h hs =>
      dsimp only
      split
      · exact (hR A c α _ ⟨b, t, news, m, i, hs, Ob.eq g (V.g.size + h) :: eq, ch, gl⟩ _).weak EqOk.tail
      · trivial
  | resume g r l k =>
    obtain ⟨b, t, news, m, i, hs, eq, ch, gl⟩ := st
    unfold step
    cases hs with
    | nil => trivial
    | cons h hs =>
      dsimp only
      split
      · split
        · rename_i c₀ t₀ _
          have z := segLoop_ext V.T hR 100 (A.under c) c₀ t₀ ⟨b, t, news, m, i, hs, Ob.eq g (V.g.size + h) :: eq, ch, gl.set h .running⟩ sk.l
          split
          · rename_i e st' q
            rw [q] at z
            obtain ⟨b', t', news', m', i', hs', eq', ch', gl'⟩ := st'
            exact (hR A c α _ ⟨b', t', news', m', i', hs', eq', ch', gl'.set h e.genState⟩ _).weak fun y => (z y).2
          · trivial
        · trivial
      · trivial
  | «yield» v gd l k =>
    unfold step
    cases gd with
    | true => trivial
    | false => exact fun z => z
  | _ => trivial
theorem run_ext {V : Cfg} (hS : SmEx V) : ∀ n, Ex (run V n)
  | 0 => fun _ _ _ _ _ _ => trivial
  | n + 1 => by show Ex (step V (run V n)); exact step_ext hS (run_ext hS n)

noncomputable def SmOk (V : Cfg) : Prop := ∀ j A c st r st', V.sm j A c st = some (r, st') → EqOk st'.eq → ∀ s, Rep V st s → ∀ R : Result → Shared → Prop, (∀ s', Rep V st' s' → R r s') → codeAny (model V.prog V.w) A c R s

noncomputable def PhW (prog : Program) (w : World) (A : Around) (c : Code) (Q : Fin → Shared → Prop) (E : Value → Shared → Prop) (p : Ph) : Shared → Prop := match p with
  | .done t => fun s => wpOwn (model prog w) A c t Q E s
  | .stop => fun _ => False
  | .need q p => fun s => q.P ∧ PhW prog w A c Q E p s
  | .hint f => fun s => ∃ n, PhW prog w A c Q E (f n) s
  | .andThen _ m f => fun s => wpOwn (model prog w) A c m (fun b s' => PhW prog w A c Q E (f b) s') (fun _ _ => False) s
  | .tryT _ m f g => fun s => wpOwn (model prog w) A c m (fun b s' => PhW prog w A c Q E (f b) s') (fun e s' => PhW prog w A c Q E (g e) s') s
  | .throw e => fun s => E e s
  | .any f => fun s => ∀ l, PhW prog w A c Q E (f l) s
termination_by structural p

structure Cfg.Ok (V : Cfg) : Prop where
  T : ∀ A c s P, SegX (model V.prog V.w) A c (V.T c) [] s P → SegX (model V.prog V.w) A c (denote table c) [] s P
  D : ∀ A c P s, PhW V.prog V.w A c (postC V.prog V.w A P) (postE P) (V.D A c) s → codeAny (model V.prog V.w) A c P s
  K : ∀ a o, offB V.off a = false → V.K.lookup a = some o → V.h₀.get? a = some o
  ex : SmEx V
  sm : SmOk V

noncomputable def Sound (V : Cfg) (R : RunTy) : Prop := ∀ A c α t st s Q E, (∀ sk, (R A c α t st sk).Fine V Q E) → Rep V st s → wpOwn (model V.prog V.w) A c t Q E s

theorem runPh_sound {V : Cfg} {R : RunTy} (hX : Ex R) (hR : Sound V R) (A : Around) (c : Code) (Q : Fin → Shared → Prop) (E : Value → Shared → Prop) (p : Ph) : ∀ st s, (∀ sk, (runPh R A c p st sk).Fine V Q E) → Rep V st s → PhW V.prog V.w A c Q E p s := by
  induction p with
  | done t => exact fun st s H D => hR A c Fin t st s Q E H D
  | stop => exact fun st s H D => H fun _ => default
  | need q p ih =>
    intro st s H D
    obtain ⟨b, t, news, m, i, hs, eq, ch, gl⟩ := st
    refine ⟨?_, ih ⟨b, t, news, m, i, hs, .pr q :: eq, ch, gl⟩ s H ⟨D.mem, D.size, D.gens, D.dr, D.tk, D.os⟩⟩
    exact ((H fun _ => default).eq (runPh_ext hX A c p ⟨b, t, news, m, i, hs, .pr q :: eq, ch, gl⟩ _)).1
  | hint f ih =>
    intro st s H D
    obtain ⟨b, t, news, m, i, hs, eq, ch, gl⟩ := st
    unfold runPh at H
    cases hs with
    | nil => exact absurd (H fun _ => default) (fun z => z)
    | cons h hs => exact ⟨h, ih h ⟨b, t, news, m, i, hs, eq, ch, gl⟩ s H ⟨D.mem, D.size, D.gens, D.dr, D.tk, D.os⟩⟩
  | andThen β m f ih =>
    intro st s H D
    unfold PhW
    refine hR A c β m st s _ _ (fun sk => ?_) D
    cases q : R A c β m st sk with
    | stop x => have z := H (Sk.mk sk sk); unfold runPh at z; rw [Sk.mk_l, q] at z; cases z
    | err e st' => have z := H (Sk.mk sk sk); unfold runPh at z; rw [Sk.mk_l, q] at z; cases z
    | yld => have z := H (Sk.mk sk sk); unfold runPh at z; rw [Sk.mk_l, q] at z; cases z
    | ok b st' =>
      have key : ∀ sk₂, (runPh R A c (f b) st' sk₂).Fine V Q E := fun sk₂ => by
        have z := H (Sk.mk sk sk₂)
        unfold runPh at z
        rw [Sk.mk_l, Sk.mk_r, q] at z
        exact z
      exact ⟨(key sk).eq (runPh_ext hX A c (f b) st' sk), fun s' D' => ih b st' s' key D'⟩
  | tryT β m f g ih ih' =>
    intro st s H D
    unfold PhW
    refine hR A c β m st s _ _ (fun sk => ?_) D
    cases q : R A c β m st sk with
    | stop x => have z := H (Sk.mk sk sk); unfold runPh at z; rw [Sk.mk_l, q] at z; cases z
    | yld => have z := H (Sk.mk sk sk); unfold runPh at z; rw [Sk.mk_l, q] at z; cases z
    | err e st' =>
      have key : ∀ sk₂, (runPh R A c (g e) st' sk₂).Fine V Q E := fun sk₂ => by
        have z := H (Sk.mk sk sk₂)
        unfold runPh at z
        rw [Sk.mk_l, Sk.mk_r, q] at z
        exact z
      exact ⟨(key sk).eq (runPh_ext hX A c (g e) st' sk), fun s' D' => ih' e st' s' key D'⟩
    | ok b st' =>
      have key : ∀ sk₂, (runPh R A c (f b) st' sk₂).Fine V Q E := fun sk₂ => by
        have z := H (Sk.mk sk sk₂)
        unfold runPh at z
        rw [Sk.mk_l, Sk.mk_r, q] at z
        exact z
      exact ⟨(key sk).eq (runPh_ext hX A c (f b) st' sk), fun s' D' => ih b st' s' key D'⟩
  | throw e => exact fun st s H D => (H fun _ => default).2 s D
  | any f ih => exact fun st s H D l => ih l st s (fun sk => H (Sk.cons (default, l) sk)) D

theorem growB_eq {o o' : Obj} (h : growB o o' = true) : ∃ vs more : Array Value, o = X.tableObj vs ∧ o' = X.tableObj (vs ++ more) := by
  unfold growB at h
  split at h
  · rename_i vs e
    split at h
    · rename_i el
      obtain ⟨vs', e'⟩ := Option.isSome_iff_exists.mp h
      refine ⟨vs, vs', tabOf_eq e, ?_⟩
      have : vs = #[] := Array.ext' el
      subst this
      rw [Array.empty_append]
      exact tabOf_eq e'
    · cases h
  · cases h
theorem gens_get {V : Cfg} {g : Array GenState} {gl : List GenState} {n h : Nat} {gs : GenState} (hg : g.toList = V.g.toList ++ gl) (hn : n = V.g.size + h) (y : gl[h]? = some gs) : g[n]? = some gs := by
  rw [← Array.getElem?_toList, hg, hn]
  rw [List.getElem?_append_right (by rw [Array.length_toList]; omega), Array.length_toList, Nat.add_sub_cancel_left]
  exact y

theorem codeLoop_sound {V : Cfg} (O : V.Ok) {R : RunTy} (hX : Ex R) (hR : Sound V R) : ∀ n A c st s P, (∀ sk, (codeLoop V.D R n A c st sk).Fine V P (fun _ _ => False)) → Rep V st s → codeAny (model V.prog V.w) A c P s
  | 0, A, c, st, s, P, H, _ => by cases H fun _ => default
  | n + 1, A, c, st, s, P, H, D => by
    refine O.D _ _ _ _ ?_
    refine runPh_sound hX hR A c _ _ (V.D A c) st s (fun sk => ?_) D
    cases q : runPh R A c (V.D A c) st sk with
    | stop x =>
      have z : (codeStep V.D R (codeLoop V.D R n) A c st (Sk.mk sk sk)).Fine V P (fun _ _ => False) := H (Sk.mk sk sk)
      unfold codeStep at z
      rw [Sk.mk_l, q] at z
      exact z
    | yld =>
      have z : (codeStep V.D R (codeLoop V.D R n) A c st (Sk.mk sk sk)).Fine V P (fun _ _ => False) := H (Sk.mk sk sk)
      unfold codeStep at z
      rw [Sk.mk_l, q] at z
      exact z
    | err e st' =>
      have z : (codeStep V.D R (codeLoop V.D R n) A c st (Sk.mk sk sk)).Fine V P (fun _ _ => False) := H (Sk.mk sk sk)
      unfold codeStep at z
      rw [Sk.mk_l, q] at z
      exact z
    | ok fin st' =>
      cases fin with
      | done f =>
        have z : (codeStep V.D R (codeLoop V.D R n) A c st (Sk.mk sk sk)).Fine V P (fun _ _ => False) := H (Sk.mk sk sk)
        unfold codeStep at z
        rw [Sk.mk_l, q] at z
        exact z
      | again c' =>
        have key : ∀ sk₂, c'.quiet = true ∧ (codeLoop V.D R n A c' st' sk₂).Fine V P (fun _ _ => False) := fun sk₂ => by
          have z : (codeStep V.D R (codeLoop V.D R n) A c st (Sk.mk sk sk₂)).Fine V P (fun _ _ => False) := H (Sk.mk sk sk₂)
          unfold codeStep at z
          rw [Sk.mk_l, Sk.mk_r, q] at z
          dsimp only at z
          cases hq : c'.quiet with
          | true => rw [hq] at z; exact ⟨rfl, z⟩
          | false => rw [hq] at z; cases z
        refine ⟨(key sk).2.eq (codeLoop_ext V.D hX n A c' st' sk), fun s' D' => ?_⟩
        exact ⟨(key sk).1, codeLoop_sound O hX hR n A c' st' s' P (fun sk₂ => (key sk₂).2) D'⟩

theorem takeObj_sound {V : Cfg} (O : V.Ok) {α : Type} {a : Nat} {st : St} {s : Shared} {k : Obj → St → Sk → Out α} {Q : α → Shared → Prop} {E : Value → Shared → Prop} (hk : ∀ o st sk, (k o st sk).Ext st.eq)
    (H : ∀ sk, (takeObj V a st (fun o st => k o st sk) .stop).Fine V Q E) (D : Rep V st s) : ∃ o st', s.heap.get? a = some o ∧ Rep V st' s ∧ ∀ sk, (k o st' sk).Fine V Q E := by
  obtain ⟨b, t, news, m, i, hs, eq, ch, gl⟩ := st
  unfold takeObj at H
  cases hs with
  | nil => cases H fun _ => default
  | cons x hs =>
    cases x with
    | zero =>
      dsimp only at H
      cases q : look V.K a with
      | none => rw [q] at H; cases H fun _ => default
      | some o =>
        rw [q] at H
        dsimp only at H
        cases y : (!offB V.off a && (hasCls o || away ch a)) with
        | false => rw [y] at H; cases H fun _ => default
        | true =>
          rw [y] at H
          exact ⟨o, ⟨b, t, news, m, i, hs, eq, ch, gl⟩, D.mem.keep a o (O.K _ _ (by simpa using (Bool.and_eq_true_iff.mp y).1) (look_eq _ _ q)) (Bool.and_eq_true_iff.mp y).2, ⟨D.mem, D.size, D.gens, D.dr, D.tk, D.os⟩, H⟩
    | succ j =>
      dsimp only at H
      cases q : (match Nat.blt j 1000 with | true => news[j]? | false => ch[j - 1000]?) with
      | none => rw [q] at H; cases H fun _ => default
      | some p =>
        rw [q] at H
        dsimp only at H
        have z : a = p.1 := ((H fun _ => default).eq (hk _ _ _)).1
        subst z
        refine ⟨p.2, ⟨b, t, news, m, i, hs, Ob.eq p.1 p.1 :: eq, ch, gl⟩, ?_, ⟨D.mem, D.size, D.gens, D.dr, D.tk, D.os⟩, H⟩
        split at q
        · exact D.mem.at j p.1 p.2 q
        · exact D.mem.atC (j - 1000) p.1 p.2 q

theorem over_nil (A : Around) (c : Code) : A.over c [] = A.under c := by
  unfold Around.over Around.under
  simp [marksOver, frameCount, envsOf, guardsOf, unitsOf, pushEnvs, pushGuards]
noncomputable def FineY (V : Cfg) (A : Around) (P : End → Shared → Prop) : Out Fin → Prop
  | .stop _ => False
  | .ok fin st => match fin with
    | .done f => EqOk st.eq ∧ ∀ s, Rep V st s → P (.ret (.ok f)) s
    | .again c' => EqOk st.eq ∧ c'.quiet = true ∧ ∀ s, Rep V st s → SegX (model V.prog V.w) A c' (denote table c') [] s P
  | .err e st => EqOk st.eq ∧ ∀ s, Rep V st s → P (.ret (.error e)) s
  | .yld v l k c p st => EqOk st.eq ∧ ∀ s, Rep V st s → P (.susp v false l k c p []) s
theorem FineY.eq {V : Cfg} {A : Around} {P : End → Shared → Prop} {l : List Ob} {o : Out Fin} (x : FineY V A P o) (e : o.Ext l) : EqOk l := by
  cases o with
  | stop => cases x
  | ok fin st => cases fin <;> exact e x.1
  | err => exact e x.1
  | yld => exact e x.1
noncomputable def FineS (V : Cfg) (P : End → Shared → Prop) : SOut → Prop
  | .stop _ => False
  | .fin e st => EqOk st.eq ∧ ∀ s, Rep V st s → P e s
theorem FineS.eq {V : Cfg} {P : End → Shared → Prop} {l : List Ob} {o : SOut} (x : FineS V P o) (e : o.Ext l) : EqOk l := by
  cases o with
  | stop => cases x
  | fin => exact e x.1
noncomputable def SoundY (V : Cfg) (R : RunTy) : Prop := ∀ A c (t : Sem Fin) st s P, (∀ sk, FineY V A P (R A c Fin t st sk)) → Rep V st s → SegX (model V.prog V.w) A c t [] s P
theorem segLoop_sound {V : Cfg} (O : V.Ok) {R : RunTy} (hX : Ex R) (hY : SoundY V R) : ∀ n A c t st s P, (∀ sk, FineS V P (segLoop V.T R n A c t st sk)) → Rep V st s → SegX (model V.prog V.w) A c t [] s P
  | 0, A, c, t, st, s, P, H, _ => by cases H fun _ => default
  | n + 1, A, c, t, st, s, P, H, D => by
    refine hY A c t st s P (fun sk => ?_) D
    have H' : ∀ sk₂, FineS V P (segLoop V.T R (n + 1) A c t st (Sk.mk sk sk₂)) := fun sk₂ => H _
    unfold segLoop at H'
    simp only [Sk.mk_l, Sk.mk_r] at H'
    cases q : R A c Fin t st sk with
    | stop x => have z := H' sk; rw [q] at z; exact z
    | err e st' => have z := H' sk; rw [q] at z; exact z
    | yld v l k c' p st' => have z := H' sk; rw [q] at z; exact z
    | ok fin st' =>
      cases fin with
      | done f => have z := H' sk; rw [q] at z; exact z
      | again c' =>
        have key : ∀ sk₂, c'.quiet = true ∧ FineS V P (segLoop V.T R n A c' (V.T c') st' sk₂) := fun sk₂ => by
          have z := H' sk₂
          rw [q] at z
          dsimp only at z
          cases hq : c'.quiet with
          | true => rw [hq] at z; exact ⟨rfl, z⟩
          | false => rw [hq] at z; cases z
        refine ⟨(key sk).2.eq (segLoop_ext V.T hX n A c' _ st' sk), (key sk).1, fun s' D' => ?_⟩
        exact O.T _ _ _ _ (segLoop_sound O hX hY n A c' (V.T c') st' s' P (fun sk₂ => (key sk₂).2) D')
theorem rep_set {V : Cfg} {b t : Nat} {news : List (Addr × Obj)} {m i : Nat} {hs : List Nat} {eq eq' : List Ob} {ch : List (Addr × Obj)} {gl : List GenState} {s : Shared} {h g : Nat} {x : GenState} {hs' : List Nat}
    (D : Rep V ⟨b, t, news, m, i, hs, eq, ch, gl⟩ s) (hg : g = V.g.size + h) : Rep V ⟨b, t, news, m, i, hs', eq', ch, gl.set h x⟩ (s.setGen g x) := by
  refine ⟨D.mem, D.size, ?_, D.dr, D.tk, D.os⟩
  show (s.gens.setIfInBounds g x).toList = _
  rw [Array.toList_setIfInBounds, show s.gens.toList = V.g.toList ++ gl from D.gens, hg]
  rw [List.set_append_right _ _ (by rw [Array.length_toList]; omega), Array.length_toList, Nat.add_sub_cancel_left]
/-- a woken generator: what is asked of it, and what comes behind -/
theorem wake_sound {V : Cfg} (O : V.Ok) {R : RunTy} (hX : Ex R) (hY : SoundY V R) {A₁ : Around} {gs : GenState} {r : Resume} {c₀ : Code} {t₀ : Sem Fin} {st : St} {s : Shared} {P : End → Shared → Prop}
    (hst : segStart V.T gs r = some (c₀, t₀)) (H : ∀ sk, FineS V P (segLoop V.T R 100 A₁ c₀ t₀ st sk)) (D : Rep V st s) :
    (∃ c, gs = .fresh c ∧ r = .send .none ∧ SegX (model V.prog V.w) A₁ c (denote table c) [] s P) ∨ (∃ k l c p cl, gs = .suspended k l c p [] cl ∧ SegX (model V.prog V.w) A₁ c (k r) [] s P) := by
  have z := segLoop_sound O hX hY 100 A₁ c₀ t₀ st s P H D
  unfold segStart at hst
  split at hst
  · split at hst
    · split at hst
      · injection hst with hst
        injection hst with e1 e2
        subst e1 e2
        exact .inl ⟨_, rfl, rfl, O.T _ _ _ _ z⟩
      · cases hst
    · cases hst
  · split at hst
    · injection hst with hst
      injection hst with e1 e2
      subst e1 e2
      exact .inr ⟨_, _, _, _, _, rfl, z⟩
    · cases hst
  · cases hst

theorem step_sound {V : Cfg} (O : V.Ok) {R : RunTy} (hX : Ex R) (hR : Sound V R) (hY : SoundY V R) : Sound V (step V R) := by
  intro A c α t st s Q E H D
  have O' := O
  cases t with
  | pure a => exact y_pure _ _ _ _ _ _ _ _ _ ((H fun _ => default).2 s D)
  | raise e => exact y_raise _ _ _ _ _ _ _ _ _ ((H fun _ => default).2 s D)
  | rule tag k => exact y_skim _ _ _ _ _ _ _ _ _ 1 (hR A c α (k ()) st s Q E H D)
  | «at» q k => exact y_skim _ _ _ _ _ _ _ _ _ 1 (hR A c α (k ()) st s Q E H D)
  | point l k => exact y_skim _ _ _ _ _ _ _ _ _ 1 (hR A c α (k ()) st s Q E H D)
  | ask k => exact y_skim _ _ _ _ _ _ _ _ _ 1 (hR A c α (k ⟨V.prog, V.w.params⟩) st s Q E H D)
  | load a q k =>
    obtain ⟨o, st', ho, D', H'⟩ := takeObj_sound O (k := fun o st sk => R A c α (k o) st sk) (fun o st sk => hX A c α (k o) st sk) H D
    have z := hR A c α (k o) st' s Q E H' D'
    exact y_load _ _ _ _ _ _ _ _ _ _ _ _ _ _ _ _ ho z
  | loadIfAlive a k =>
    obtain ⟨o, st', ho, D', H'⟩ := takeObj_sound O (k := fun o st sk => R A c α (k (some o)) st sk) (fun o st sk => hX A c α (k (some o)) st sk) H D
    have z := hR A c α (k (some o)) st' s Q E H' D'
    exact y_alive _ _ _ _ _ _ _ _ _ _ _ _ _ _ _ ho z
  | alloc o k =>
    obtain ⟨b, t, news, m, i, hs, eq, ch, gl⟩ := st
    unfold step at H
    dsimp only at H
    cases q : o.isFreed with
    | true => rw [q] at H; cases H fun _ => default
    | false =>
      rw [q] at H
      refine wpOwn_bind (m := PySem.alloc o) (f := k) (wpOwn_of_wpAny (wpAny_alloc ?_))
      have hz : s.heap.objs.size = b + m := D.size
      have D' : Rep V ⟨b, t, (b + m, o) :: news, m + 1, i, hs, eq, ch, gl⟩ { s with heap := s.heap.push o } := by
        refine ⟨?_, ?_, D.gens, D.dr, D.tk, D.os⟩
        · have y := D.mem.alloc (o := o) q
          rw [hz] at y
          exact y
        · show (s.heap.push o).objs.size = b + (m + 1)
          rw [Heap.size_push, hz, Nat.add_assoc]
      have z := hR A c α _ _ _ Q E H D'
      rw [hz]
      exact z
  | update a q f k =>
    obtain ⟨b, t, news, m, i, hs, eq, ch, gl⟩ := st
    unfold step at H
    cases hs with
    | nil => cases H fun _ => default
    | cons x hs =>
      cases x with
      | zero => cases H fun _ => default
      | succ j =>
        dsimp only at H
        cases hj : Nat.blt j 1000 with
        | false =>
          rw [hj] at H
          dsimp only at H
          cases y : ch[j - 1000]? with
          | none => rw [y] at H; cases H fun _ => default
          | some p =>
            rw [y] at H
            dsimp only at H
            cases hg : growB p.2 (f p.2) with
            | false => rw [hg] at H; cases H fun _ => default
            | true =>
              rw [hg] at H
              dsimp only at H
              have z : a = p.1 := ((H fun _ => default).eq (hX _ _ _ _ _ _)).1
              subst z
              obtain ⟨vs, more, e1, e2⟩ := growB_eq hg
              obtain ⟨pa, po⟩ := p
              dsimp only at e1 e2 y H ⊢
              have D' : Rep V ⟨b, t, news, m, i, hs, Ob.eq pa pa :: eq, ch.set (j - 1000) (pa, f po), gl⟩ { s with heap := s.heap.update pa f } := by
                refine ⟨?_, ?_, D.gens, D.dr, D.tk, D.os⟩
                · rw [e2]
                  subst e1
                  exact D.mem.regrow y e2
                · have e := (Heap.SameBut.update s.heap pa f).1
                  exact e.trans D.size
              have z := hR A c α _ _ _ Q E H D'
              exact wpOwn_bind (m := updatePart pa q f) (f := k) (wpOwn_of_wpAny (wpAny_updatePart (D.mem.atC (j - 1000) pa po y) z))
        | true =>
        rw [hj] at H
        dsimp only at H
        cases y : news[j]? with
        | none => rw [y] at H; cases H fun _ => default
        | some p =>
          rw [y] at H
          dsimp only at H
          cases hf : (f p.2).isFreed with
          | true => rw [hf] at H; cases H fun _ => default
          | false =>
            rw [hf] at H
            dsimp only at H
            have z : a = p.1 := ((H fun _ => default).eq (hX _ _ _ _ _ _)).1
            subst z
            have D' : Rep V ⟨b, t, news.set j (p.1, f p.2), m, i, hs, Ob.eq p.1 p.1 :: eq, ch, gl⟩ { s with heap := s.heap.update p.1 f } := by
              refine ⟨D.mem.update y hf, ?_, D.gens, D.dr, D.tk, D.os⟩
              have e := (Heap.SameBut.update s.heap p.1 f).1
              exact e.trans D.size
            have z := hR A c α _ _ _ Q E H D'
            exact wpOwn_bind (m := updatePart p.1 q f) (f := k) (wpOwn_of_wpAny (wpAny_updatePart (D.mem.at j p.1 p.2 y) z))
  | fresh k =>
    obtain ⟨b, t, news, m, i, hs, eq, ch, gl⟩ := st
    have D' : Rep V ⟨b, t, news, m, i + 1, hs, eq, ch, gl⟩ { s with toks := s.toks + 1 } := ⟨D.mem, D.size, D.gens, D.dr, by show s.toks + 1 = _; rw [D.tk, Nat.add_assoc], D.os⟩
    have z := hR A c α (k (t + i)) _ _ Q E H D'
    have e : s.toks = t + i := D.tk
    rw [← e] at z
    exact y_fresh _ _ _ _ _ _ _ _ _ _ _ _ _ z
  | handled own k =>
    cases own with
    | true => cases H fun _ => default
    | false => exact y_handled _ _ _ _ _ _ _ _ _ (hR A c α (k A.handled) st s Q E H D)
  | stack k =>
    refine y_stack _ _ _ _ _ _ _ _ _ fun p below _ => hR A c α _ st s Q E (fun sk => ?_) D
    exact H (Sk.cons (p, below) sk)
  | call c' hd g l k =>
    unfold step at H
    dsimp only at H
    cases hm : okMark hd with
    | false => rw [hm] at H; cases H fun _ => default
    | true =>
      rw [hm] at H
      have hnb : hd ≠ some byPass := by
        intro e
        subst e
        simp [okMark] at hm
      obtain ⟨b, t, news, m, i, hs, eq, ch, gl⟩ := st
      dsimp only at H
      refine y_call _ _ _ _ _ _ _ _ _ _ _ _ _ hnb ?_
      cases hs with
      | nil => cases H fun _ => default
      | cons x hs =>
        cases x with
        | zero =>
          dsimp only at H
          refine codeLoop_sound O hX hR 100 _ c' ⟨b, t, news, m, i, hs, eq, ch, gl⟩ s _ (fun sk => ?_) ⟨D.mem, D.size, D.gens, D.dr, D.tk, D.os⟩
          cases q : codeLoop V.D R 100 ((A.under c).mark hd) c' ⟨b, t, news, m, i, hs, eq, ch, gl⟩ sk with
          | stop x => have z := H (Sk.mk sk sk); rw [Sk.mk_l, q] at z; cases z
          | err x st' => have z := H (Sk.mk sk sk); rw [Sk.mk_l, q] at z; cases z
          | yld => have z := H (Sk.mk sk sk); rw [Sk.mk_l, q] at z; cases z
          | ok r st' =>
            have key : ∀ sk₂, (R A c α (k r) st' sk₂).Fine V Q E := fun sk₂ => by
              have z := H (Sk.mk sk sk₂)
              rw [Sk.mk_l, Sk.mk_r, q] at z
              exact z
            exact ⟨(key sk).eq (hX _ _ _ _ _ _), fun s' D' => hR A c α (k r) st' s' Q E key D'⟩
        | succ j =>
          dsimp only at H
          cases q : V.sm j ((A.under c).mark hd) c' ⟨b, t, news, m, i, hs, eq, ch, gl⟩ with
          | none => rw [q] at H; cases H fun _ => default
          | some p =>
            obtain ⟨r, st'⟩ := p
            rw [q] at H
            exact O.sm j _ c' _ r st' q ((H fun _ => default).eq (hX _ _ _ _ _ _)) s ⟨D.mem, D.size, D.gens, D.dr, D.tk, D.os⟩ _ fun s' D' => hR A c α (k r) st' s' Q E H D'
  | newGen c' k =>
    obtain ⟨b, t, news, m, i, hs, eq, ch, gl⟩ := st
    obtain ⟨h, g, d, tt, os⟩ := s
    have hg : g.toList = V.g.toList ++ gl := D.gens
    have hz : g.size = V.g.size + gl.length := by
      rw [← Array.length_toList, hg, List.length_append, Array.length_toList]
    have D' : Rep V ⟨b, t, news, m, i, hs, eq, ch, gl ++ [.fresh c']⟩ ⟨h, g.push (.fresh c'), d, tt, os⟩ :=
      ⟨D.mem, D.size, by show (g.push (.fresh c')).toList = _; rw [Array.toList_push, hg, List.append_assoc], D.dr, D.tk, D.os⟩
    have z := hR A c α (k (V.g.size + gl.length)) _ _ Q E H D'
    rw [← hz] at z
    exact y_newGen _ _ _ _ _ _ _ _ _ _ _ _ _ _ z
  | genState g k =>
    obtain ⟨b, t, news, m, i, hs, eq, ch, gl⟩ := st
    unfold step at H
    cases hs with
    | nil => cases H fun _ => default
    | cons h hs =>
      dsimp only at H
      cases y : gl[h]? with
      | none => rw [y] at H; cases H fun _ => default
      | some gs =>
        rw [y] at H
        dsimp only at H
        have z : g = V.g.size + h := ((H fun _ => default).eq (hX _ _ _ _ _ _)).1
        have D' : Rep V ⟨b, t, news, m, i, hs, Ob.eq g (V.g.size + h) :: eq, ch, gl⟩ s := ⟨D.mem, D.size, D.gens, D.dr, D.tk, D.os⟩
        exact y_genState _ _ _ _ _ _ _ _ _ _ gs (gens_get D.gens z y) (hR A c α _ _ _ Q E H D')
  | resume g r l k =>
    obtain ⟨b, t, news, m, i, hs, eq, ch, gl⟩ := st
    unfold step at H
    cases hs with
    | nil => cases H fun _ => default
    | cons h hs =>
      dsimp only at H
      cases y : gl[h]? with
      | none => rw [y] at H; cases H fun _ => default
      | some gs =>
        rw [y] at H
        dsimp only at H
        cases hst : segStart V.T gs r with
        | none => rw [hst] at H; cases H fun _ => default
        | some ct =>
          obtain ⟨c₀, t₀⟩ := ct
          rw [hst] at H
          dsimp only at H
          have hg : g = V.g.size + h := by
            have z := H fun _ => default
            have x := segLoop_ext V.T hX 100 (A.under c) c₀ t₀ ⟨b, t, news, m, i, hs, Ob.eq g (V.g.size + h) :: eq, ch, gl.set h .running⟩ (Sk.l fun _ => default)
            cases q : segLoop V.T R 100 (A.under c) c₀ t₀ ⟨b, t, news, m, i, hs, Ob.eq g (V.g.size + h) :: eq, ch, gl.set h .running⟩ (Sk.l fun _ => default) with
            | stop => rw [q] at z; cases z
            | fin e st' =>
              rw [q] at z x
              obtain ⟨b', t', news', m', i', hs', eq', ch', gl'⟩ := st'
              exact (x (z.eq (hX _ _ _ _ _ _))).1
          have D' : Rep V ⟨b, t, news, m, i, hs, Ob.eq g (V.g.size + h) :: eq, ch, gl.set h .running⟩ (s.setGen g .running) := rep_set D hg
          have HS : ∀ sk, FineS V (postG V.prog V.w A c Q E k g) (segLoop V.T R 100 (A.under c) c₀ t₀ ⟨b, t, news, m, i, hs, Ob.eq g (V.g.size + h) :: eq, ch, gl.set h .running⟩ sk) := by
            intro sk
            cases q : segLoop V.T R 100 (A.under c) c₀ t₀ ⟨b, t, news, m, i, hs, Ob.eq g (V.g.size + h) :: eq, ch, gl.set h .running⟩ sk with
            | stop => have z := H (Sk.mk sk sk); rw [Sk.mk_l, q] at z; cases z
            | fin e st' =>
              obtain ⟨b', t', news', m', i', hs', eq', ch', gl'⟩ := st'
              have key : ∀ sk₂, (R A c α (k e.result) ⟨b', t', news', m', i', hs', eq', ch', gl'.set h e.genState⟩ sk₂).Fine V Q E := fun sk₂ => by
                have z := H (Sk.mk sk sk₂)
                rw [Sk.mk_l, Sk.mk_r, q] at z
                exact z
              exact ⟨(key sk).eq (hX _ _ _ _ _ _), fun s' D₂ => hR A c α (k e.result) _ _ Q E key (rep_set D₂ hg)⟩
          rcases wake_sound O hX hY hst HS D' with ⟨c₁, rfl, rfl, z⟩ | ⟨k₁, l₁, c₁, p₁, cl, rfl, z⟩
          · exact y_resume_f _ _ _ _ _ _ _ _ _ _ _ _ (gens_get D.gens hg y) z
          · exact y_resume_s _ _ _ _ _ _ _ _ _ _ _ _ _ _ _ _ _ _ (gens_get D.gens hg y) z
  | «yield» v gd l k =>
    unfold step at H
    cases gd with
    | true => cases H fun _ => default
    | false => cases H fun _ => default
  | _ => cases H fun _ => default

theorem takeObj_soundY {V : Cfg} (O : V.Ok) {A : Around} {a : Nat} {st : St} {s : Shared} {k : Obj → St → Sk → Out Fin} {P : End → Shared → Prop} (hk : ∀ o st sk, (k o st sk).Ext st.eq)
    (H : ∀ sk, FineY V A P (takeObj V a st (fun o st => k o st sk) .stop)) (D : Rep V st s) : ∃ o st', s.heap.get? a = some o ∧ Rep V st' s ∧ ∀ sk, FineY V A P (k o st' sk) := by
  obtain ⟨b, t, news, m, i, hs, eq, ch, gl⟩ := st
  unfold takeObj at H
  cases hs with
  | nil => cases H fun _ => default
  | cons x hs =>
    cases x with
    | zero =>
      dsimp only at H
      cases q : look V.K a with
      | none => rw [q] at H; cases H fun _ => default
      | some o =>
        rw [q] at H
        dsimp only at H
        cases y : (!offB V.off a && (hasCls o || away ch a)) with
        | false => rw [y] at H; cases H fun _ => default
        | true =>
          rw [y] at H
          exact ⟨o, ⟨b, t, news, m, i, hs, eq, ch, gl⟩, D.mem.keep a o (O.K _ _ (by simpa using (Bool.and_eq_true_iff.mp y).1) (look_eq _ _ q)) (Bool.and_eq_true_iff.mp y).2, ⟨D.mem, D.size, D.gens, D.dr, D.tk, D.os⟩, H⟩
    | succ j =>
      dsimp only at H
      cases q : (match Nat.blt j 1000 with | true => news[j]? | false => ch[j - 1000]?) with
      | none => rw [q] at H; cases H fun _ => default
      | some p =>
        rw [q] at H
        dsimp only at H
        have z : a = p.1 := ((H fun _ => default).eq (hk _ _ _)).1
        subst z
        refine ⟨p.2, ⟨b, t, news, m, i, hs, Ob.eq p.1 p.1 :: eq, ch, gl⟩, ?_, ⟨D.mem, D.size, D.gens, D.dr, D.tk, D.os⟩, H⟩
        split at q
        · exact D.mem.at j p.1 p.2 q
        · exact D.mem.atC (j - 1000) p.1 p.2 q

theorem step_soundY {V : Cfg} (O : V.Ok) {R : RunTy} (hX : Ex R) (hR : Sound V R) (hY : SoundY V R) : SoundY V (step V R) := by
  intro A c t st s P H D
  cases t with
  | pure fin =>
    cases fin with
    | done f => exact s_end _ _ _ _ _ _ (.ok f) _ rfl ((H fun _ => default).2 s D)
    | again c' =>
      have z := H fun _ => default
      exact s_again _ _ _ _ _ _ _ _ z.2.1 (z.2.2 s D)
  | raise e => exact s_end _ _ _ _ _ _ (.error e) _ rfl ((H fun _ => default).2 s D)
  | rule tag k => exact s_skim _ _ _ _ _ _ _ _ 1 (hY A c (k ()) st s P H D)
  | «at» q k => exact s_skim _ _ _ _ _ _ _ _ 1 (hY A c (k ()) st s P H D)
  | point l k => exact s_skim _ _ _ _ _ _ _ _ 1 (hY A c (k ()) st s P H D)
  | ask k => exact s_skim _ _ _ _ _ _ _ _ 1 (hY A c (k ⟨V.prog, V.w.params⟩) st s P H D)
  | load a q k =>
    obtain ⟨o, st', ho, D', H'⟩ := takeObj_soundY O (k := fun o st sk => R A c Fin (k o) st sk) (fun o st sk => hX A c Fin (k o) st sk) H D
    exact s_load _ _ _ _ _ _ _ _ _ _ _ _ _ _ _ ho (hY A c (k o) st' s P H' D')
  | loadIfAlive a k =>
    obtain ⟨o, st', ho, D', H'⟩ := takeObj_soundY O (k := fun o st sk => R A c Fin (k (some o)) st sk) (fun o st sk => hX A c Fin (k (some o)) st sk) H D
    exact s_alive _ _ _ _ _ _ _ _ _ _ _ _ _ _ ho (hY A c (k (some o)) st' s P H' D')
  | alloc o k =>
    obtain ⟨b, t, news, m, i, hs, eq, ch, gl⟩ := st
    unfold step at H
    dsimp only at H
    cases q : o.isFreed with
    | true => rw [q] at H; cases H fun _ => default
    | false =>
      rw [q] at H
      refine s_cmd _ _ _ _ _ _ (m := PySem.alloc o) (k := k) (wpAny_alloc ?_)
      have hz : s.heap.objs.size = b + m := D.size
      have D' : Rep V ⟨b, t, (b + m, o) :: news, m + 1, i, hs, eq, ch, gl⟩ { s with heap := s.heap.push o } := by
        refine ⟨?_, ?_, D.gens, D.dr, D.tk, D.os⟩
        · have y := D.mem.alloc (o := o) q
          rw [hz] at y
          exact y
        · show (s.heap.push o).objs.size = b + (m + 1)
          rw [Heap.size_push, hz, Nat.add_assoc]
      have z := hY A c _ _ _ P H D'
      rw [hz]
      exact z
  | update a q f k =>
    obtain ⟨b, t, news, m, i, hs, eq, ch, gl⟩ := st
    unfold step at H
    cases hs with
    | nil => cases H fun _ => default
    | cons x hs =>
      cases x with
      | zero => cases H fun _ => default
      | succ j =>
        dsimp only at H
        cases hj : Nat.blt j 1000 with
        | false =>
          rw [hj] at H
          dsimp only at H
          cases y : ch[j - 1000]? with
          | none => rw [y] at H; cases H fun _ => default
          | some p =>
            rw [y] at H
            dsimp only at H
            cases hg : growB p.2 (f p.2) with
            | false => rw [hg] at H; cases H fun _ => default
            | true =>
              rw [hg] at H
              dsimp only at H
              have z : a = p.1 := ((H fun _ => default).eq (hX _ _ _ _ _ _)).1
              subst z
              obtain ⟨vs, more, e1, e2⟩ := growB_eq hg
              obtain ⟨pa, po⟩ := p
              dsimp only at e1 e2 y H ⊢
              have D' : Rep V ⟨b, t, news, m, i, hs, Ob.eq pa pa :: eq, ch.set (j - 1000) (pa, f po), gl⟩ { s with heap := s.heap.update pa f } := by
                refine ⟨?_, ?_, D.gens, D.dr, D.tk, D.os⟩
                · rw [e2]
                  subst e1
                  exact D.mem.regrow y e2
                · have e := (Heap.SameBut.update s.heap pa f).1
                  exact e.trans D.size
              exact s_cmd _ _ _ _ _ _ (m := updatePart pa q f) (k := k) (wpAny_updatePart (D.mem.atC (j - 1000) pa po y) (hY A c _ _ _ P H D'))
        | true =>
        rw [hj] at H
        dsimp only at H
        cases y : news[j]? with
        | none => rw [y] at H; cases H fun _ => default
        | some p =>
          rw [y] at H
          dsimp only at H
          cases hf : (f p.2).isFreed with
          | true => rw [hf] at H; cases H fun _ => default
          | false =>
            rw [hf] at H
            dsimp only at H
            have z : a = p.1 := ((H fun _ => default).eq (hX _ _ _ _ _ _)).1
            subst z
            have D' : Rep V ⟨b, t, news.set j (p.1, f p.2), m, i, hs, Ob.eq p.1 p.1 :: eq, ch, gl⟩ { s with heap := s.heap.update p.1 f } := by
              refine ⟨D.mem.update y hf, ?_, D.gens, D.dr, D.tk, D.os⟩
              have e := (Heap.SameBut.update s.heap p.1 f).1
              exact e.trans D.size
            exact s_cmd _ _ _ _ _ _ (m := updatePart p.1 q f) (k := k) (wpAny_updatePart (D.mem.at j p.1 p.2 y) (hY A c _ _ _ P H D'))
  | fresh k =>
    obtain ⟨b, t, news, m, i, hs, eq, ch, gl⟩ := st
    have D' : Rep V ⟨b, t, news, m, i + 1, hs, eq, ch, gl⟩ { s with toks := s.toks + 1 } := ⟨D.mem, D.size, D.gens, D.dr, by show s.toks + 1 = _; rw [D.tk, Nat.add_assoc], D.os⟩
    have z := hY A c (k (t + i)) _ _ P H D'
    have e : s.toks = t + i := D.tk
    rw [← e] at z
    exact s_fresh _ _ _ _ _ _ _ _ _ _ _ _ z
  | handled own k =>
    cases own with
    | true => cases H fun _ => default
    | false => exact s_handled _ _ _ _ _ _ _ _ (by rw [over_nil]; exact hY A c (k A.handled) st s P H D)
  | stack k =>
    exact s_stack _ _ _ _ _ _ _ _ fun p below _ => hY A c _ st s P (fun sk => H (Sk.cons (p, below) sk)) D
  | «yield» v gd l k =>
    unfold step at H
    cases gd with
    | true => cases H fun _ => default
    | false =>
      exact s_yield _ _ _ _ _ _ _ _ _ _ rfl rfl fun p => (H (Sk.cons (p, []) fun _ => default)).2 s D
  | newGen c' k =>
    obtain ⟨b, t, news, m, i, hs, eq, ch, gl⟩ := st
    obtain ⟨h, g, d, tt, os⟩ := s
    have hg : g.toList = V.g.toList ++ gl := D.gens
    have hz : g.size = V.g.size + gl.length := by
      rw [← Array.length_toList, hg, List.length_append, Array.length_toList]
    have D' : Rep V ⟨b, t, news, m, i, hs, eq, ch, gl ++ [.fresh c']⟩ ⟨h, g.push (.fresh c'), d, tt, os⟩ :=
      ⟨D.mem, D.size, by show (g.push (.fresh c')).toList = _; rw [Array.toList_push, hg, List.append_assoc], D.dr, D.tk, D.os⟩
    have z := hY A c (k (V.g.size + gl.length)) _ _ P H D'
    rw [← hz] at z
    exact s_newGen _ _ _ _ _ _ _ _ _ _ _ _ _ z
  | genState g k =>
    obtain ⟨b, t, news, m, i, hs, eq, ch, gl⟩ := st
    unfold step at H
    cases hs with
    | nil => cases H fun _ => default
    | cons h hs =>
      dsimp only at H
      cases y : gl[h]? with
      | none => rw [y] at H; cases H fun _ => default
      | some gs =>
        rw [y] at H
        dsimp only at H
        have z : g = V.g.size + h := ((H fun _ => default).eq (hX _ _ _ _ _ _)).1
        have D' : Rep V ⟨b, t, news, m, i, hs, Ob.eq g (V.g.size + h) :: eq, ch, gl⟩ s := ⟨D.mem, D.size, D.gens, D.dr, D.tk, D.os⟩
        exact s_genState _ _ _ _ _ _ _ _ _ gs (gens_get D.gens z y) (hY A c _ _ _ P H D')
  | call c' hd g l k =>
    unfold step at H
    dsimp only at H
    cases hm : okMark hd with
    | false => rw [hm] at H; cases H fun _ => default
    | true =>
      rw [hm] at H
      have hnb : hd ≠ some byPass := by
        intro e
        subst e
        simp [okMark] at hm
      obtain ⟨b, t, news, m, i, hs, eq, ch, gl⟩ := st
      dsimp only at H
      have go : codeAny (model V.prog V.w) ((A.under c).mark hd) c' (fun r s' => SegX (model V.prog V.w) A c (k r) [] s' P) s → SegX (model V.prog V.w) A c (.call c' hd g l k) [] s P := by
        intro hc
        refine s_cmd _ _ _ _ _ _ (m := (Sem.call c' hd g l .pure : Sem Result)) (k := k) ?_
        rw [over_nil]
        exact x_call (fun Γ p hΓ h => wpCode_mono (fun _ _ q => wpAny_pure q) (hc Γ p hΓ h)) hnb
      apply go
      cases hs with
      | nil => cases H fun _ => default
      | cons x hs =>
        cases x with
        | zero =>
          dsimp only at H
          refine codeLoop_sound O hX hR 100 _ c' ⟨b, t, news, m, i, hs, eq, ch, gl⟩ s _ (fun sk => ?_) ⟨D.mem, D.size, D.gens, D.dr, D.tk, D.os⟩
          cases q : codeLoop V.D R 100 ((A.under c).mark hd) c' ⟨b, t, news, m, i, hs, eq, ch, gl⟩ sk with
          | stop x => have z := H (Sk.mk sk sk); rw [Sk.mk_l, q] at z; cases z
          | err x st' => have z := H (Sk.mk sk sk); rw [Sk.mk_l, q] at z; cases z
          | yld => have z := H (Sk.mk sk sk); rw [Sk.mk_l, q] at z; cases z
          | ok r st' =>
            have key : ∀ sk₂, FineY V A P (R A c Fin (k r) st' sk₂) := fun sk₂ => by
              have z := H (Sk.mk sk sk₂)
              rw [Sk.mk_l, Sk.mk_r, q] at z
              exact z
            exact ⟨(key sk).eq (hX _ _ _ _ _ _), fun s' D' => hY A c (k r) st' s' P key D'⟩
        | succ j =>
          dsimp only at H
          cases q : V.sm j ((A.under c).mark hd) c' ⟨b, t, news, m, i, hs, eq, ch, gl⟩ with
          | none => rw [q] at H; cases H fun _ => default
          | some p =>
            obtain ⟨r, st'⟩ := p
            rw [q] at H
            exact O.sm j _ c' _ r st' q ((H fun _ => default).eq (hX _ _ _ _ _ _)) s ⟨D.mem, D.size, D.gens, D.dr, D.tk, D.os⟩ _ fun s' D' => hY A c (k r) st' s' P H D'
  | resume g r l k =>
    obtain ⟨b, t, news, m, i, hs, eq, ch, gl⟩ := st
    unfold step at H
    cases hs with
    | nil => cases H fun _ => default
    | cons h hs =>
      dsimp only at H
      cases y : gl[h]? with
      | none => rw [y] at H; cases H fun _ => default
      | some gs =>
        rw [y] at H
        dsimp only at H
        cases hst : segStart V.T gs r with
        | none => rw [hst] at H; cases H fun _ => default
        | some ct =>
          obtain ⟨c₀, t₀⟩ := ct
          rw [hst] at H
          dsimp only at H
          have hg : g = V.g.size + h := by
            have z := H fun _ => default
            have x := segLoop_ext V.T hX 100 (A.under c) c₀ t₀ ⟨b, t, news, m, i, hs, Ob.eq g (V.g.size + h) :: eq, ch, gl.set h .running⟩ (Sk.l fun _ => default)
            cases q : segLoop V.T R 100 (A.under c) c₀ t₀ ⟨b, t, news, m, i, hs, Ob.eq g (V.g.size + h) :: eq, ch, gl.set h .running⟩ (Sk.l fun _ => default) with
            | stop => rw [q] at z; cases z
            | fin e st' =>
              rw [q] at z x
              obtain ⟨b', t', news', m', i', hs', eq', ch', gl'⟩ := st'
              exact (x (z.eq (hX _ _ _ _ _ _))).1
          have D' : Rep V ⟨b, t, news, m, i, hs, Ob.eq g (V.g.size + h) :: eq, ch, gl.set h .running⟩ (s.setGen g .running) := rep_set D hg
          have HS : ∀ sk, FineS V (postGS V.prog V.w A c [] P k g) (segLoop V.T R 100 (A.under c) c₀ t₀ ⟨b, t, news, m, i, hs, Ob.eq g (V.g.size + h) :: eq, ch, gl.set h .running⟩ sk) := by
            intro sk
            cases q : segLoop V.T R 100 (A.under c) c₀ t₀ ⟨b, t, news, m, i, hs, Ob.eq g (V.g.size + h) :: eq, ch, gl.set h .running⟩ sk with
            | stop => have z := H (Sk.mk sk sk); rw [Sk.mk_l, q] at z; cases z
            | fin e st' =>
              obtain ⟨b', t', news', m', i', hs', eq', ch', gl'⟩ := st'
              have key : ∀ sk₂, FineY V A P (R A c Fin (k e.result) ⟨b', t', news', m', i', hs', eq', ch', gl'.set h e.genState⟩ sk₂) := fun sk₂ => by
                have z := H (Sk.mk sk sk₂)
                rw [Sk.mk_l, Sk.mk_r, q] at z
                exact z
              exact ⟨(key sk).eq (hX _ _ _ _ _ _), fun s' D₂ => hY A c (k e.result) _ _ P key (rep_set D₂ hg)⟩
          rcases wake_sound O hX hY hst HS D' with ⟨c₁, rfl, rfl, z⟩ | ⟨k₁, l₁, c₁, p₁, cl, rfl, z⟩
          · exact s_resume_f _ _ _ _ _ _ _ _ _ _ _ (gens_get D.gens hg y) (by rw [over_nil]; exact z)
          · exact s_resume_s _ _ _ _ _ _ _ _ _ _ _ _ _ _ _ _ _ (gens_get D.gens hg y) (by rw [over_nil]; exact z)
  | _ => cases H fun _ => default
theorem run_both {V : Cfg} (O : V.Ok) : ∀ n, Sound V (run V n) ∧ SoundY V (run V n)
  | 0 => ⟨fun _ _ _ _ _ _ _ _ H _ => False.elim (H fun _ => default), fun _ _ _ _ _ _ H _ => False.elim (H fun _ => default)⟩
  | n + 1 => ⟨by show Sound V (step V (run V n)); exact step_sound O (run_ext O.ex n) (run_both O n).1 (run_both O n).2,
      by show SoundY V (step V (run V n)); exact step_soundY O (run_ext O.ex n) (run_both O n).1 (run_both O n).2⟩
theorem run_sound {V : Cfg} (O : V.Ok) (n : Nat) : Sound V (run V n) := (run_both O n).1
end Mine

namespace Mine

section
variable {α β : Type} {prog : Program} {w : World} {A : Around} {c : Code} {Q : α → Shared → Prop} {E : Value → Shared → Prop} {s : Shared}
theorem own_at (h : PySem.wpAt (model prog w) (A.under c) c (t : Sem α) Q E s) : wpOwn (model prog w) A c t Q E s := fun Γ p hc hΓ => h Γ p hc (hc ▸ hΓ.in)
end

noncomputable def retF (f : Flow) : Sem Fin := match f with
  | .ret v => ret v
  | _ => ret .none

/-- what is left of a body, once its first evaluation (of super().x) has given its object -/
noncomputable def restE (fM : Expr → Str → Pos → Pos → Env → Value → Nat → List (Bool × Sem Value) → List (Option Str × Sem Value) → Sem Value) (fA : List (Bool × Sem Value)) (fK : List (Option Str × Sem Value))
    (fV : Value → Sem Flow) (fX : List Stmt → Env → Sem Flow) (fL : Env → Value → Sem Unit) (o : Expr) (attr : Str) (apos pos : Pos) (n : Nat) (rest : List Stmt) (env : Env) (so : Value) : Sem Fin :=
  (((standAt apos.atName >>= fun _ => fM o attr apos pos env so n fA fK) >>= fun v => fV v >>= fun f => match f with
    | .next => fX rest env
    | f => pure f).onRaise (fL env)) >>= retF

theorem body_gen {prog : Program} {w : World} {A : Around} {c : Code} {Q : Fin → Shared → Prop} {E : Value → Shared → Prop} {s : Shared} {o : Expr} {attr : Str} {apos pos p2 : Pos} {args : List Expr} {kws : List Keyword} {st : Stmt} {rest : List Stmt} {env : Env} {fV : Value → Sem Flow}
    (hex : exec st env = (standAt p2 >>= fun _ => eval (.Call (.Attribute o attr apos) args kws pos) env >>= fV))
    (H : wpOwn (model prog w) A c (attributeBase o attr env (eval o env)) (fun so s' => wpOwn (model prog w) A c (restE methodCall (backTo pos (starEach args env)) (backToKw pos (keywordEach kws env)) fV execs leaving o attr apos pos (args.length + kws.length) rest env so) Q E s') (fun _ _ => False) s) :
    wpOwn (model prog w) A c (denote table (.func (st :: rest) env)) Q E s := by
  intro Γ p hc hΓ
  have e1 : eval (.Call (.Attribute o attr apos) args kws pos) env = (do
    let ov ← attributeBase o attr env (eval o env)
    standAt apos.atName
    methodCall o attr apos pos env ov (args.length + kws.length) (backTo pos (starEach args env)) (backToKw pos (keywordEach kws env))) := by rfl
  have e3 : denote table (.func (st :: rest) env) = (point >>= fun _ => ((exec st env >>= fun f => match f with
    | .next => execs rest env
    | f => pure f).onRaise (leaving env)) >>= retF) := by
    show (point >>= fun _ => ((execs (st :: rest) env).onRaise (leaving env)) >>= _) = _
    rw [execs_cons]
    rfl
  rw [e3, hex, e1]
  simp only [Sem.wp_bind', Sem.wp_onRaise, Sem.wp_cmd_standAt]
  show Sem.wp _ Γ (attributeBase o attr env (eval o env)) _ _ _ s
  refine Sem.wp_mono _ Γ _ (fun so p' s' h' => ?_) (fun e p' s' h' => h'.elim) _ s (H Γ _ hc hΓ)
  have z := h' Γ p' hc hΓ
  unfold restE at z
  simp only [Sem.wp_bind', Sem.wp_onRaise, Sem.wp_cmd_standAt] at z
  exact z
theorem exec_expr {value : Expr} {p2 : Pos} {env : Env} (hk : env.scope.kind = .function) (hs : swapsWith value none p2.line env = pure false) :
    exec (.Expr value p2) env = (standAt p2 >>= fun _ => eval value env >>= dropValue value p2) := by
  have hi : interactive env = false := by unfold interactive; rw [hk]; rfl
  show (standAt p2 >>= fun _ => if interactive env then _ else _) = _
  rw [hi, hs]
  rfl
theorem exec_assign {value : Expr} {x : Str} {xp p2 : Pos} {env : Env} (hs : swapsWith value (some (.Name x xp)) p2.line env = pure false) :
    exec (.Assign [.Name x xp] value p2) env = (standAt p2 >>= fun _ => eval value env >>= fun v => swappedStores [.Name x xp] value env >>= fun sw => assignStores env v sw ((assignEach [.Name x xp] env).map (·.2))) := by
  show (standAt p2 >>= fun _ => (swapsWith value (some (.Name x xp)) p2.line env >>= fun b => if b then _ else _)) = _
  rw [hs]
  rfl

theorem body_if {prog : Program} {w : World} {A : Around} {c : Code} {Q : Fin → Shared → Prop} {E : Value → Shared → Prop} {s : Shared} {o : Expr} {attr : Str} {apos pos p1 p2 : Pos} {args : List Expr} {kws : List Keyword} {st : Stmt} {rest : List Stmt} {env : Env} {fV : Value → Sem Flow}
    {pre : Sem Bool} {els : Sem Flow}
    (hex : exec st env = (standAt p1 >>= fun _ => pre >>= fun b => if b then (standAt p2 >>= fun _ => eval (.Call (.Attribute o attr apos) args kws pos) env >>= fV) else els))
    (H : wpOwn (model prog w) A c pre (fun b s₁ => b = true ∧ wpOwn (model prog w) A c (attributeBase o attr env (eval o env)) (fun so s' => wpOwn (model prog w) A c (restE methodCall (backTo pos (starEach args env)) (backToKw pos (keywordEach kws env)) fV execs leaving o attr apos pos (args.length + kws.length) rest env so) Q E s') (fun _ _ => False) s₁) (fun _ _ => False) s) :
    wpOwn (model prog w) A c (denote table (.func (st :: rest) env)) Q E s := by
  intro Γ p hc hΓ
  have e1 : eval (.Call (.Attribute o attr apos) args kws pos) env = (do
    let ov ← attributeBase o attr env (eval o env)
    standAt apos.atName
    methodCall o attr apos pos env ov (args.length + kws.length) (backTo pos (starEach args env)) (backToKw pos (keywordEach kws env))) := by rfl
  have e3 : denote table (.func (st :: rest) env) = (point >>= fun _ => ((exec st env >>= fun f => match f with
    | .next => execs rest env
    | f => pure f).onRaise (leaving env)) >>= retF) := by
    show (point >>= fun _ => ((execs (st :: rest) env).onRaise (leaving env)) >>= _) = _
    rw [execs_cons]
    rfl
  rw [e3, hex, e1]
  simp only [Sem.wp_bind', Sem.wp_onRaise, Sem.wp_cmd_standAt]
  show Sem.wp _ Γ pre _ _ _ s
  refine Sem.wp_mono _ Γ _ (fun b p₁ s₁ h₁ => ?_) (fun e p' s' h' => h'.elim) _ s (H Γ _ hc hΓ)
  obtain ⟨rfl, h₁⟩ := h₁
  rw [if_pos rfl]
  simp only [Sem.wp_bind', Sem.wp_onRaise, Sem.wp_cmd_standAt]
  refine Sem.wp_mono _ Γ _ (fun so p' s' h' => ?_) (fun e p' s' h' => h'.elim) _ s₁ (h₁ Γ _ hc hΓ)
  have z := h' Γ p' hc hΓ
  unfold restE at z
  simp only [Sem.wp_bind', Sem.wp_onRaise, Sem.wp_cmd_standAt] at z
  exact z
theorem exec_if {test value : Expr} {pos p2 : Pos} {env : Env} (hk : env.scope.kind = .function) (hs : swapsWith value none p2.line env = pure false) :
    exec (.If test [.Expr value p2] [] pos) env = (standAt pos >>= fun _ => PySem.isTrue test env (eval test env) >>= fun b => if b then (standAt p2 >>= fun _ => eval value env >>= fun v => dropValue value p2 v >>= fun f => match f with
      | .next => execs [] env
      | f => pure f) else execs [] env) := by
  show (standAt pos >>= fun _ => PySem.isTrue test env (eval test env) >>= fun b => if b then execs [.Expr value p2] env else execs [] env) = _
  rw [execs_cons, exec_expr hk hs]
  simp only [bind_assoc]
  rfl

theorem own_super_base {prog : Program} {w : World} {A : Around} {body : List Stmt} {env : Env} {E : Value → Shared → Prop} {s : Shared} {p0 p1 : Pos} {attr : Str} {whole : Sem Value} {f cc : Addr} {Q : Value → Shared → Prop}
    (hks : env.kindOf "super" = some .globalImplicit) (hkc : env.kindOf "__class__" = some .free) (hat : (attr == ("__class__" : Str)) = false) (hfu : env.func = some f) (hco : env.code = .ref cc)
    (htop : (prog.main.scope.names.lookup ("super" : Str)).isSome = false)
    (h : wpOwn (model prog w) A (.func body env) (load f) (fun of s₁ => ∃ fd ar, of.data = .func fd ∧ (fd.params.posonlyargs ++ fd.params.args).head? = some ar ∧
      wpOwn (model prog w) A (.func body env) (field (.ref cc) 2) (fun fv s₂ => ∃ file tf, fv = .str file tf ∧ ((prog.main.file : Str) == file) = true ∧
      wpOwn (model prog w) A (.func body env) (loadName env "super") (fun g s₃ => g = .type "super" ∧ wpOwn (model prog w) A (.func body env) (loadName env "__class__") (fun cls s₄ => wpOwn (model prog w) A (.func body env) (loadName env ar.arg) (fun self s₅ =>
      wpOwn (model prog w) A (.func body env) (isType cls) (fun b s₆ => b = true ∧ wpOwn (model prog w) A (.func body env) (call (.type "super") [cls, self]) Q E s₆) E s₅) E s₄) E s₃) E s₂) E s₁) E s) :
    wpOwn (model prog w) A (.func body env) (attributeBase (.Call (.Name "super" p0) [] [] p1) attr env whole) Q E s := by
  unfold attributeBase
  simp only [bne_self_eq_false, hat, hks, hkc, hfu, hco, Bool.or_false, Bool.or_self, Bool.false_eq_true, if_false, Option.isSome_some, if_true, pure_bind]
  unfold funcData
  refine wpOwn_bind (wpOwn_bind (wpOwn_mono h (fun of s₁ h₁ => ?_) fun _ _ z => z))
  obtain ⟨fd, ar, hfd, hp, h₁⟩ := h₁
  rw [hfd]
  refine wpOwn_of_wpAny (wpAny_pure ?_)
  simp only [hp]
  refine wpOwn_bind (wpOwn_of_wpAny (wpAny_askSetting ?_))
  refine wpOwn_bind (wpOwn_mono h₁ (fun fv s₂ h₂ => ?_) fun _ _ z => z)
  obtain ⟨file, tf, rfl, hfile, h₂⟩ := h₂
  have hfile' : ((model prog w).prog.main.file == file) = true := hfile
  have htop' : (List.lookup (Str.ofString "super") (model prog w).prog.main.scope.names).isSome = false := htop
  simp only [hfile', htop', if_true, Bool.false_eq_true, if_false]
  refine wpOwn_bind (wpOwn_of_wpAny (wpAny_rule ?_))
  refine wpOwn_bind (wpOwn_of_wpAny (wpAny_standAt ?_))
  refine wpOwn_bind (wpOwn_mono h₂ (fun g s₃ h₃ => ?_) fun _ _ z => z)
  obtain ⟨rfl, h₃⟩ := h₃
  refine wpOwn_bind (wpOwn_mono h₃ (fun cls s₄ h₄ => ?_) fun _ _ z => z)
  refine wpOwn_bind (own_at (ks_wpAt_noComps ?_))
  show wpOwn _ _ _ (loadName env ar.arg >>= _) _ _ _
  refine wpOwn_bind (wpOwn_mono h₄ (fun self s₅ h₅ => ?_) fun _ _ z => z)
  refine wpOwn_bind (wpOwn_mono h₅ (fun b s₆ h₆ => ?_) fun _ _ z => z)
  obtain ⟨rfl, h₆⟩ := h₆
  exact h₆


section
noncomputable abbrev xLoadName := PySem.W.Fast.tw8468629109055619292
noncomputable abbrev xIsType := PySem.W.Fast.tw10380811246957099773
noncomputable abbrev xCall : Value → List Value → List (Str × Value) → Sem Value := @PySem.W.Fast.tw11478286150595567475
noncomputable abbrev xField := PySem.W.Fast.tw6609576154772507232
noncomputable abbrev xBindArgs := PySem.W.Fast.tw9782568553167038054
noncomputable abbrev xNewEnv : Scope → Addr → List (Str × Addr) → List (Str × Value) → Str → Option Addr → Value → Option Env → Addr → Sem Env := @PySem.W.Fast.tw11113344188204177931
noncomputable abbrev xLimit := PySem.W.Fast.tw2211186353215096513
noncomputable abbrev xMethodCall := PySem.W.Fast.tw13401596951702201221
noncomputable abbrev xBackTo := PySem.W.Fast.tw4897270859577272712
noncomputable abbrev xBackToKw := PySem.W.Fast.tw621762911399731506
noncomputable abbrev xStarEach := PySem.W.Fast.tw13897175071876407860
noncomputable abbrev xKeywordEach := PySem.W.Fast.tw11621922129505618389
noncomputable abbrev xDropValue := PySem.W.Fast.tw12372662630863984472
noncomputable abbrev xExecs := PySem.W.Fast.tw12563942051412417395
noncomputable abbrev xEval := PySem.W.Fast.tw14044960220447912780
noncomputable abbrev xLeaving := PySem.W.Fast.tw9442747609961115081
noncomputable abbrev xSwappedStores := PySem.W.Fast.tw4016559146275205325
noncomputable abbrev xAssignStores := PySem.W.Fast.tw2470068587113613483
noncomputable abbrev xAssignEach := PySem.W.Fast.tw15628205474173192105
noncomputable abbrev xIsTrue := PySem.W.Fast.tw15418851999007992765
theorem xSwappedStores_eq : xSwappedStores = swappedStores := PySem.W.Fast.te4016559146275205325.symm
theorem xAssignStores_eq : xAssignStores = assignStores := PySem.W.Fast.te2470068587113613483.symm
theorem xAssignEach_eq : xAssignEach = assignEach := PySem.W.Fast.te15628205474173192105.symm
theorem xIsTrue_eq : xIsTrue = PySem.isTrue := PySem.W.Fast.te15418851999007992765.symm
theorem xLoadName_eq : xLoadName = loadName := PySem.W.Fast.te8468629109055619292.symm
theorem xIsType_eq : xIsType = isType := PySem.W.Fast.te10380811246957099773.symm
theorem xCall_eq : xCall = @call := PySem.W.Fast.te11478286150595567475.symm
theorem xField_eq : xField = field := PySem.W.Fast.te6609576154772507232.symm
theorem xBindArgs_eq : xBindArgs = bindArgs := PySem.W.Fast.te9782568553167038054.symm
theorem xNewEnv_eq : xNewEnv = @newFunctionEnv := PySem.W.Fast.te11113344188204177931.symm
theorem xLimit_eq : xLimit = currentRecursionLimit := PySem.W.Fast.te2211186353215096513.symm
theorem xMethodCall_eq : xMethodCall = methodCall := PySem.W.Fast.te13401596951702201221.symm
theorem xBackTo_eq : xBackTo = backTo := PySem.W.Fast.te4897270859577272712.symm
theorem xBackToKw_eq : xBackToKw = backToKw := PySem.W.Fast.te621762911399731506.symm
theorem xStarEach_eq : xStarEach = starEach := PySem.W.Fast.te13897175071876407860.symm
theorem xKeywordEach_eq : xKeywordEach = keywordEach := PySem.W.Fast.te11621922129505618389.symm
theorem xDropValue_eq : xDropValue = dropValue := PySem.W.Fast.te12372662630863984472.symm
theorem xExecs_eq : xExecs = execs := PySem.W.Fast.te12563942051412417395.symm
theorem xEval_eq : xEval = eval := PySem.W.Fast.te14044960220447912780.symm
theorem xLeaving_eq : xLeaving = leaving := PySem.W.Fast.te9442747609961115081.symm

noncomputable def firstArg (o : Obj) : Option Str := match o.data with
  | .func fd => ((fd.params.posonlyargs ++ fd.params.args).head?).map (·.arg)
  | _ => none
theorem firstArg_eq {o : Obj} {x : Str} (h : firstArg o = some x) : ∃ fd ar, o.data = .func fd ∧ (fd.params.posonlyargs ++ fd.params.args).head? = some ar ∧ ar.arg = x := by
  unfold firstArg at h
  split at h
  · rename_i fd e
    cases q : (fd.params.posonlyargs ++ fd.params.args).head? with
    | none => rw [q] at h; cases h
    | some ar => rw [q] at h; exact ⟨fd, ar, e, q, Option.some.inj h⟩
  · cases h

/-- the steps of super().x in a body: k is what is done with the super object -/
noncomputable def superPh (prog : Program) (env : Env) (f cc : Addr) (k : Value → Ph) : Ph :=
  .andThen Obj (load f) fun o => match firstArg o with
    | none => .stop
    | some x => .andThen Value (xField (.ref cc) 2) fun fv => match fv with
      | .str file _ => match ((prog.main.file : Str) == file) with
        | false => .stop
        | true => .andThen Value (xLoadName env "super") fun g => match decide (g = .type "super") with
          | false => .stop
          | true => .andThen Value (xLoadName env "__class__") fun cls => .andThen Value (xLoadName env x) fun self => .andThen Bool (xIsType cls) fun b => match b with
            | false => .stop
            | true => .andThen Value (xCall (.type "super") [cls, self] []) k
      | _ => .stop
noncomputable def superOk (prog : Program) (env : Env) (nm attr : Str) : Bool :=
  decide (nm = ("super" : Str)) && decide (env.scope.kind = .function) && decide (env.kindOf "super" = some .globalImplicit) && decide (env.kindOf "__class__" = some .free) && (attr != ("__class__" : Str)) && !(prog.main.scope.names.lookup ("super" : Str)).isSome

theorem superPh_ok {prog : Program} {w : World} {A : Around} {body : List Stmt} {env : Env} {Q : Fin → Shared → Prop} {E : Value → Shared → Prop} {s : Shared} {p0 p1 : Pos} {nm attr : Str} {whole : Sem Value} {f cc : Addr} {k : Value → Ph}
    (ok : superOk prog env nm attr = true) (hfu : env.func = some f) (hco : env.code = .ref cc)
    (H : PhW prog w A (.func body env) Q E (superPh prog env f cc k) s) :
    wpOwn (model prog w) A (.func body env) (attributeBase (.Call (.Name nm p0) [] [] p1) attr env whole) (fun so s' => PhW prog w A (.func body env) Q E (k so) s') (fun _ _ => False) s := by
  unfold superOk at ok
  simp only [Bool.and_eq_true, decide_eq_true_eq, Bool.not_eq_true', bne_iff_ne, ne_eq] at ok
  obtain ⟨⟨⟨⟨⟨rfl, hk⟩, hks⟩, hkc⟩, hat⟩, htop⟩ := ok
  refine own_super_base hks hkc (by simpa using hat) hfu hco htop ?_
  unfold superPh at H
  unfold PhW at H
  refine wpOwn_mono H (fun o s₁ h₁ => ?_) fun _ _ z => z
  cases q : firstArg o with
  | none => dsimp only at h₁; rw [q] at h₁; exact h₁.elim
  | some x =>
    dsimp only at h₁
    rw [q] at h₁
    obtain ⟨fd, ar, e1, e2, rfl⟩ := firstArg_eq q
    refine ⟨fd, ar, e1, e2, ?_⟩
    dsimp only at h₁
    unfold PhW at h₁
    rw [xField_eq] at h₁
    refine wpOwn_mono h₁ (fun fv s₂ h₂ => ?_) fun _ _ z => z
    cases fv with
    | str file tf =>
      dsimp only at h₂
      cases qf : ((prog.main.file : Str) == file) with
      | false => rw [qf] at h₂; exact h₂.elim
      | true =>
        rw [qf] at h₂
        refine ⟨file, tf, rfl, qf, ?_⟩
        dsimp only at h₂
        unfold PhW at h₂
        rw [xLoadName_eq] at h₂
        refine wpOwn_mono h₂ (fun g s₃ h₃ => ?_) fun _ _ z => z
        by_cases hg : g = .type "super"
        · subst hg
          refine ⟨rfl, ?_⟩
          dsimp only at h₃
          rw [decide_eq_true rfl] at h₃
          dsimp only at h₃
          unfold PhW at h₃
          refine wpOwn_mono h₃ (fun cls s₄ h₄ => ?_) fun _ _ z => z
          unfold PhW at h₄
          refine wpOwn_mono h₄ (fun self s₅ h₅ => ?_) fun _ _ z => z
          unfold PhW at h₅
          rw [xIsType_eq] at h₅
          refine wpOwn_mono h₅ (fun b s₆ h₆ => ?_) fun _ _ z => z
          cases b with
          | false => exact h₆.elim
          | true =>
            refine ⟨rfl, ?_⟩
            dsimp only at h₆
            unfold PhW at h₆
            rw [xCall_eq] at h₆
            exact h₆
        · dsimp only at h₃
          rw [decide_eq_false hg] at h₃
          exact h₃.elim
    | _ => exact h₂.elim


/-- the call of a def: its binding, its frame, then its body -/
noncomputable def callPh (A : Around) (a : Addr) (args : Args) : Ph :=
  .andThen Obj (load a) fun o => match o.data with
    | .func fd => match fd.body with
      | .stmts body => match fd.scope.isGenerator with
        | true => .stop
        | false => match fd.scope.isCoroutine with
          | true => .stop
          | false => match Nat.blt A.depth 1000 with
            | false => .stop
            | true => match fd.code with
              | .ref cc => .andThen Value (xField (.ref cc) 1) fun q => match q with
                | .str q _ => .andThen (List (Str × Value)) (xBindArgs fd args) fun binds =>
                  .andThen Env (xNewEnv fd.scope fd.globals fd.closure binds (q ++ ".<locals>.") (some a) (.ref cc) none fd.builtins) fun env =>
                  .andThen Nat xLimit fun l => match Nat.beq l 1000 with
                    | true => .done (again (.func body env))
                    | false => .stop
                | _ => .stop
              | _ => .stop
      | .expr _ => .stop
    | _ => .stop

theorem own_enterFrame {prog : Program} {w : World} {A : Around} {c : Code} {Q : Unit → Shared → Prop} {E : Value → Shared → Prop} {s : Shared} (hd : (A.under c).depth < recursionLimit)
    (h : wpOwn (model prog w) A c currentRecursionLimit (fun l s' => l = recursionLimit ∧ Q () s') (fun _ _ => False) s) : wpOwn (model prog w) A c enterFrame Q E s := by
  intro Γ p hc hΓ
  have hΓ' : Γ.In (A.under c) := hc ▸ hΓ.in
  have hsum : ((((Γ.code, p) :: Γ.below).map (·.1)).map (·.frames)).sum + ((((Γ.code, p) :: Γ.below).map (·.1)).filter Code.isCreation).length < recursionLimit := by
    have hge := frameCount_ge ((Γ.code, p) :: Γ.below)
    rw [frameCount_cons] at hge
    have := hΓ'.2.1
    omega
  have hlt : ¬ ((((Γ.code, p) :: Γ.below).map (·.1)).map (·.frames)).sum ≥ recursionLimit := by omega
  have hlt' : ¬ ((((Γ.code, p) :: Γ.below).map (·.1)).map (·.frames)).sum + ((((Γ.code, p) :: Γ.below).map (·.1)).filter Code.isCreation).length ≥ recursionLimit := by omega
  simp only [enterFrame, Sem.wp_bind']
  show Sem.wp _ Γ currentRecursionLimit _ _ p s
  refine Sem.wp_mono _ Γ _ (fun l p' s' h' => ?_) (fun _ _ _ h' => h'.elim) p s (h Γ p hc hΓ)
  obtain ⟨rfl, hq⟩ := h'
  show Sem.wp _ Γ (if nearTheLimitUnderAClaim (((Γ.code, p) :: Γ.below).map (·.1)) (((((Γ.code, p) :: Γ.below).map (·.1)).map (·.frames)).sum + ((((Γ.code, p) :: Γ.below).map (·.1)).filter Code.isCreation).length) recursionLimit = true then _ else _) _ _ p' s'
  rw [if_neg (by rw [not_nearTheLimit hΓ' hd]; exact Bool.false_ne_true)]
  show Sem.wp _ Γ (if ((((Γ.code, p) :: Γ.below).map (·.1)).map (·.frames)).sum ≥ recursionLimit then _ else _) _ _ p' s'
  rw [if_neg hlt]
  show Sem.wp _ Γ (if ((((Γ.code, p) :: Γ.below).map (·.1)).map (·.frames)).sum + ((((Γ.code, p) :: Γ.below).map (·.1)).filter Code.isCreation).length ≥ recursionLimit then _ else _) _ _ p' s'
  rw [if_neg hlt']; exact hq

theorem call_weight (f : Value) (args : Args) (A : Around) : (A.under (.call f args)).depth = A.depth := by rfl

theorem callPh_ok {prog : Program} {w : World} {A : Around} {a : Addr} {args : Args} {P : Result → Shared → Prop} {s : Shared}
    (H : PhW prog w A (.call (.ref a) args) (postC prog w A P) (postE P) (callPh A a args) s) : codeAny (model prog w) A (.call (.ref a) args) P s := by
  refine y_code _ _ _ _ _ _ ?_
  show wpOwn (model prog w) A (.call (.ref a) args) (callAny (.ref a) args) _ _ s
  unfold callPh PhW at H
  simp only [callAny]
  have no : ∀ e (s' : Shared), False → postE P e s' := fun _ _ z => z.elim
  refine wpOwn_bind (wpOwn_mono H (fun o s₁ h₁ => ?_) no)
  dsimp only at h₁
  cases hd : o.data with
  | func fd =>
    rw [hd] at h₁
    dsimp only at h₁
    cases hb : fd.body with
    | expr e => rw [hb] at h₁; exact h₁.elim
    | stmts body =>
      rw [hb] at h₁
      dsimp only at h₁
      cases hg : fd.scope.isGenerator with
      | true => rw [hg] at h₁; exact h₁.elim
      | false =>
        rw [hg] at h₁
        dsimp only at h₁
        cases hco : fd.scope.isCoroutine with
        | true => rw [hco] at h₁; exact h₁.elim
        | false =>
          rw [hco] at h₁
          dsimp only at h₁
          cases hdp : Nat.blt A.depth 1000 with
          | false => rw [hdp] at h₁; exact h₁.elim
          | true =>
            rw [hdp] at h₁
            dsimp only at h₁
            cases hc : fd.code with
            | ref cc =>
              rw [hc] at h₁
              dsimp only at h₁
              unfold PhW at h₁
              rw [xField_eq] at h₁
              simp only [callFunction, hco, hg, hb, hc]
              refine wpOwn_bind (m := field (.ref cc) 1) (wpOwn_mono h₁ (fun q s₂ h₂ => ?_) no)
              cases q with
              | str q tq =>
                dsimp only at h₂ ⊢
                unfold PhW at h₂
                rw [xBindArgs_eq] at h₂
                refine wpOwn_bind (wpOwn_of_wpAny (wpAny_pure ?_))
                refine wpOwn_bind (wpOwn_mono h₂ (fun binds s₃ h₃ => ?_) no)
                unfold PhW at h₃
                rw [xNewEnv_eq] at h₃
                refine wpOwn_bind (wpOwn_mono h₃ (fun env s₄ h₄ => ?_) no)
                unfold PhW at h₄
                rw [xLimit_eq] at h₄
                refine wpOwn_bind (own_enterFrame (by rw [call_weight]; exact Nat.le_of_ble_eq_true hdp) (wpOwn_mono h₄ (fun l s₅ h₅ => ?_) fun _ _ z => z))
                dsimp only at h₅
                cases hl : Nat.beq l 1000 with
                | false => rw [hl] at h₅; exact h₅.elim
                | true =>
                  rw [hl] at h₅
                  exact ⟨Nat.eq_of_beq_eq_true hl, h₅⟩
              | _ => exact h₂.elim
            | _ => rw [hc] at h₁; exact h₁.elim
  | _ =>
    rw [hd] at h₁
    exact h₁.elim

/-- the value of a statement that begins with super().x(..), by its own phases -/
noncomputable def callSuperPh (prog : Program) (pre : Ph → Ph) (value : Expr) (rest : List Stmt) (env : Env) (fV : Value → Sem Flow) (els : Ph) : Ph := match value with
  | .Call (.Attribute o attr apos) args kws pos => match o with
    | .Call (.Name nm _) [] [] _ => match superOk prog env nm attr with
      | false => .stop
      | true => match env.func with
        | none => .stop
        | some f => match env.code with
          | .ref cc => pre <| superPh prog env f cc fun so => .done (restE xMethodCall (xBackTo pos (xStarEach args env)) (xBackToKw pos (xKeywordEach kws env)) fV xExecs xLeaving o attr apos pos (args.length + kws.length) rest env so)
          | _ => .stop
    | _ => els
  | _ => els
/-- the body of a def, where it begins with super().x(..) -/
noncomputable def funcPh (prog : Program) (body : List Stmt) (env : Env) : Ph := match body with
  | s :: rest => match s with
    | .Expr value p2 => callSuperPh prog id value rest env (xDropValue value p2) (.done (DD (.func body env)))
    | .Assign ts value _ => match ts with
      | [.Name x xp] => callSuperPh prog id value rest env (fun v => xSwappedStores [.Name x xp] value env >>= fun sw => xAssignStores env v sw ((xAssignEach [.Name x xp] env).map (·.2))) (.done (DD (.func body env)))
      | _ => .done (DD (.func body env))
    | .If test body₁ orelse _ => match body₁ with
      | [.Expr value p2] => match orelse with
        | [] => callSuperPh prog (fun p => .andThen Bool (xIsTrue test env (xEval test env)) fun b => match b with | true => p | false => .stop) value rest env (fun v => xDropValue value p2 v >>= fun f => match f with
          | .next => xExecs [] env
          | f => pure f) (.done (DD (.func body env)))
        | _ :: _ => .done (DD (.func body env))
      | _ => .done (DD (.func body env))
    | _ => .done (DD (.func body env))
  | _ => .done (DD (.func body env))
theorem done_ok {prog : Program} {w : World} {A : Around} {c : Code} {P : Result → Shared → Prop} {s : Shared}
    (H : PhW prog w A c (postC prog w A P) (postE P) (.done (DD c)) s) : codeAny (model prog w) A c P s := by
  refine y_code _ _ _ _ _ _ ?_
  unfold PhW at H
  rw [DD_eq] at H
  exact H
theorem superOk_kind {prog : Program} {env : Env} {nm attr : Str} (h : superOk prog env nm attr = true) : env.scope.kind = .function := by
  unfold superOk at h
  simp only [Bool.and_eq_true, decide_eq_true_eq, Bool.not_eq_true', bne_iff_ne, ne_eq] at h
  exact h.1.1.1.1.2
theorem callSuperPh_ok {prog : Program} {w : World} {A : Around} {st : Stmt} {rest : List Stmt} {env : Env} {value : Expr} {p2 : Pos} {fV : Value → Sem Flow} {P : Result → Shared → Prop} {s : Shared}
    (hex : env.scope.kind = .function → (∀ t, swapsWith value t p2.line env = pure false) → exec st env = (standAt p2 >>= fun _ => eval value env >>= fV))
    (H : PhW prog w A (.func (st :: rest) env) (postC prog w A P) (postE P) (callSuperPh prog id value rest env fV (.done (DD (.func (st :: rest) env)))) s) : codeAny (model prog w) A (.func (st :: rest) env) P s := by
  unfold callSuperPh at H
  split at H
  · rename_i o attr apos args kws pos
    split at H
    · rename_i nm p0 p1
      split at H
      · exact H.elim
      · rename_i ok
        split at H
        · exact H.elim
        · rename_i f hf
          split at H
          · rename_i cc hcc
            refine y_code _ _ _ _ _ _ (body_gen (hex (superOk_kind ok) fun t => by cases t <;> rfl) ?_)
            refine wpOwn_mono (superPh_ok ok hf hcc H) (fun so s' h' => ?_) fun _ _ z => z
            unfold PhW at h'
            rw [xMethodCall_eq, xBackTo_eq, xStarEach_eq, xBackToKw_eq, xKeywordEach_eq, xExecs_eq, xLeaving_eq] at h'
            exact h'
          · exact H.elim
    · exact done_ok H
  · exact done_ok H
theorem callSuperPh_if_ok {prog : Program} {w : World} {A : Around} {st : Stmt} {rest : List Stmt} {env : Env} {value : Expr} {p1 p2 : Pos} {fV : Value → Sem Flow} {pre : Sem Bool} {els : Sem Flow} {P : Result → Shared → Prop} {s : Shared}
    (hex : env.scope.kind = .function → (∀ t, swapsWith value t p2.line env = pure false) → exec st env = (standAt p1 >>= fun _ => pre >>= fun b => if b then (standAt p2 >>= fun _ => eval value env >>= fV) else els))
    (H : PhW prog w A (.func (st :: rest) env) (postC prog w A P) (postE P) (callSuperPh prog (fun p => .andThen Bool pre fun b => match b with | true => p | false => .stop) value rest env fV (.done (DD (.func (st :: rest) env)))) s) : codeAny (model prog w) A (.func (st :: rest) env) P s := by
  unfold callSuperPh at H
  split at H
  · rename_i o attr apos args kws pos
    split at H
    · rename_i nm p0 p1
      split at H
      · exact H.elim
      · rename_i ok
        split at H
        · exact H.elim
        · rename_i f hf
          split at H
          · rename_i cc hcc
            refine y_code _ _ _ _ _ _ (body_if (hex (superOk_kind ok) fun t => by cases t <;> rfl) ?_)
            unfold PhW at H
            refine wpOwn_mono H (fun b s₁ h₁ => ?_) fun _ _ z => z
            cases b with
            | false => exact h₁.elim
            | true =>
              refine ⟨rfl, ?_⟩
              refine wpOwn_mono (superPh_ok ok hf hcc h₁) (fun so s' h' => ?_) fun _ _ z => z
              unfold PhW at h'
              rw [xMethodCall_eq, xBackTo_eq, xStarEach_eq, xBackToKw_eq, xKeywordEach_eq, xExecs_eq, xLeaving_eq] at h'
              exact h'
          · exact H.elim
    · exact done_ok H
  · exact done_ok H
theorem funcPh_ok {prog : Program} {w : World} {A : Around} {body : List Stmt} {env : Env} {P : Result → Shared → Prop} {s : Shared}
    (H : PhW prog w A (.func body env) (postC prog w A P) (postE P) (funcPh prog body env) s) : codeAny (model prog w) A (.func body env) P s := by
  unfold funcPh at H
  split at H
  · split at H
    · rw [xDropValue_eq] at H
      exact callSuperPh_ok (fun hk hs => exec_expr hk (hs _)) H
    · split at H
      · rw [xSwappedStores_eq, xAssignStores_eq, xAssignEach_eq] at H
        exact callSuperPh_ok (fun hk hs => exec_assign (hs _)) H
      · exact done_ok H
    · split at H
      · split at H
        · rw [xDropValue_eq, xIsTrue_eq, xEval_eq, xExecs_eq] at H
          exact callSuperPh_if_ok (fun hk hs => exec_if hk (hs _)) H
        · exact done_ok H
      · exact done_ok H
    · exact done_ok H
  · exact done_ok H

noncomputable abbrev xTypeOf := PySem.W.Fast.tw14684505520029207082
noncomputable abbrev xListItems := PySem.W.Fast.tw10557518346328741659
noncomputable abbrev xListUpdate := PySem.W.Fast.tw2060155186595164805
noncomputable abbrev xPyIter := PySem.W.Fast.tw8711993805878244202
noncomputable abbrev xListHint := PySem.W.Fast.tw15112759502256325868
noncomputable abbrev xListTouch := PySem.W.Fast.tw922294955767894045
theorem xTypeOf_eq : xTypeOf = typeOf := PySem.W.Fast.te14684505520029207082.symm
theorem xListItems_eq : xListItems = Builtin.List.listItems := PySem.W.Fast.te10557518346328741659.symm
theorem xListUpdate_eq : xListUpdate = Builtin.List.listUpdate := PySem.W.Fast.te2060155186595164805.symm
theorem xPyIter_eq : xPyIter = pyIter := PySem.W.Fast.te8711993805878244202.symm
theorem xListHint_eq : xListHint = Builtin.List.listLengthHint := PySem.W.Fast.te15112759502256325868.symm
theorem xListTouch_eq : xListTouch = Builtin.List.listTouch := PySem.W.Fast.te922294955767894045.symm

/-- a list of the call's own that takes the items of another object -/
noncomputable def extPh (a b : Addr) : Ph :=
  .need (.addr a b) <| .andThen Value (xTypeOf (.ref b)) fun t => match (t == .type "list" || t == .type "tuple") with
    | true => .andThen (Array Value) (xListItems (.ref b)) fun xs => .andThen (Array Value) (xListItems (.ref a)) fun mine => match (!mine.isEmpty && Builtin.List.listTooLong (mine.size + xs.size)) with
      | true => .stop
      | false => .andThen Unit (xListUpdate (.ref a) (· ++ xs)) fun _ => .done (ret (.ref a))
    | false => match decide (t = .type "generator") with
      | false => .stop
      | true => .andThen Value (xPyIter (.ref b)) fun iter => .andThen Bool (xListHint (.ref b)) fun room => match room with
        | true => .andThen Unit (xListTouch (.ref a)) fun _ => .done (again (.builtin "list.extend.loop" ⟨[.ref a, iter, .ref a], []⟩))
        | false => .done (again (.builtin "list.extend.loop" ⟨[.ref a, iter, .ref a], []⟩))
theorem bi_okS {prog : Program} {w : World} {A : Around} {P : Result → Shared → Prop} {s : Shared} {id : String} {args : Args} {B : Builtin} (hb : entryFor table id = some B)
    (H : wpOwn (model prog w) A (.builtin id args) (B args) (postC prog w A P) (postE P) s) : codeAny (model prog w) A (.builtin id args) P s := by
  refine y_code _ _ _ _ _ _ ?_
  show wpOwn _ _ _ (match entryFor table id with | some B => B args | none => unsupported ((withoutEnding? id "#data").getD id)) _ _ _
  rw [hb]; exact H
theorem extPh_ok {prog : Program} {w : World} {A : Around} {a b : Addr} {P : Result → Shared → Prop} {s : Shared}
    (H : PhW prog w A (.builtin "list.__iadd__" ⟨[.ref a, .ref b], []⟩) (postC prog w A P) (postE P) (extPh a b) s) : codeAny (model prog w) A (.builtin "list.__iadd__" ⟨[.ref a, .ref b], []⟩) P s := by
  refine bi_okS (B := Builtin.«list.__iadd__») F.entry_list_iadd ?_
  show wpOwn _ _ _ (Builtin.List.listExtendWith (.ref a) (.ref b) (.ref a)) _ _ _
  unfold extPh PhW at H
  obtain ⟨ne, H⟩ := H
  have ne : a ≠ b := ne
  have no : ∀ e (s' : Shared), False → postE P e s' := fun _ _ z => z.elim
  have hs : Builtin.List.listSameRef (.ref a) (.ref b) = false := by
    show (a == b) = false
    simpa using ne
  unfold PhW at H
  rw [xTypeOf_eq] at H
  unfold Builtin.List.listExtendWith
  refine wpOwn_bind (wpOwn_mono H (fun t s₁ h₁ => ?_) no)
  dsimp only at h₁
  rw [hs, Bool.false_or]
  cases ht : (t == .type "list" || t == .type "tuple") with
  | true =>
    rw [ht] at h₁
    dsimp only at h₁
    unfold PhW at h₁
    rw [xListItems_eq] at h₁
    rw [if_pos rfl]
    refine wpOwn_bind (wpOwn_mono h₁ (fun xs s₂ h₂ => ?_) no)
    unfold PhW at h₂
    refine wpOwn_bind (wpOwn_mono h₂ (fun mine s₃ h₃ => ?_) no)
    dsimp only at h₃
    cases hl : (!mine.isEmpty && Builtin.List.listTooLong (mine.size + xs.size)) with
    | true => rw [hl] at h₃; exact h₃.elim
    | false =>
      rw [hl] at h₃
      dsimp only at h₃
      unfold PhW at h₃
      rw [xListUpdate_eq] at h₃
      dsimp only
      rw [if_neg Bool.false_ne_true]
      exact wpOwn_bind (wpOwn_mono h₃ (fun _ s₄ h₄ => h₄) no)
  | false =>
    rw [ht] at h₁
    dsimp only at h₁
    by_cases hgen : t = .type "generator"
    · subst hgen
      rw [decide_eq_true rfl] at h₁
      dsimp only at h₁
      unfold PhW at h₁
      rw [xPyIter_eq] at h₁
      rw [if_neg Bool.false_ne_true]
      refine wpOwn_bind (wpOwn_mono h₁ (fun iter s₂ h₂ => ?_) no)
      unfold PhW at h₂
      rw [xListHint_eq] at h₂
      refine wpOwn_bind (fun Γ p hc hΓ => ?_)
      rw [Sem.wp_holding]
      refine Sem.wp_mono _ Γ _ (fun room p' s₃ h₃ => ?_) (fun _ _ _ z => z.elim) p s₂ (h₂ Γ p hc hΓ)
      cases room with
      | true =>
        dsimp only at h₃
        unfold PhW at h₃
        rw [xListTouch_eq] at h₃
        dsimp only; rw [Bool.true_or, if_pos rfl]
        have z : wpOwn (model prog w) A (.builtin "list.__iadd__" ⟨[.ref a, .ref b], []⟩) (rule "list.extend.makes-room" >>= fun _ => Builtin.List.listTouch (.ref a) >>= fun _ => again (.builtin "list.extend.loop" ⟨[.ref a, iter, .ref a], []⟩)) (postC prog w A P) (postE P) s₃ :=
          wpOwn_bind (wpOwn_of_wpAny (wpAny_rule (wpOwn_bind (wpOwn_mono h₃ (fun _ _ z => z) no))))
        exact z
      | false =>
        dsimp only
        rw [if_neg (by decide +kernel)]
        exact h₃
    · rw [decide_eq_false hgen] at h₁
      exact h₁.elim

noncomputable def isFn (a : Nat) : Bool := match Nat.blt a 358 with
  | false => false
  | true => [345, 352, 357, 130, 250, 97, 75, 325, 272, 152, 160].any (Nat.beq a)
noncomputable def xD (prog : Program) (A : Around) (c : Code) : Ph := match c with
  | .call (.ref a) args => match isFn a with
    | true => callPh A a args
    | false => .done (DD (.call (.ref a) args))
  | .func body env => funcPh prog body env
  | .builtin id args => match decide (id = "list.__iadd__") with
    | true => match args with
      | ⟨[.ref a, .ref b], []⟩ => extPh a b
      | _ => .done (DD c)
    | false => .done (DD c)
  | c => .done (DD c)
theorem xD_ok (prog : Program) (w : World) (A : Around) (c : Code) (P : Result → Shared → Prop) (s : Shared)
    (H : PhW prog w A c (postC prog w A P) (postE P) (xD prog A c) s) : codeAny (model prog w) A c P s := by
  unfold xD at H
  split at H
  · split at H
    · exact callPh_ok H
    · exact done_ok H
  · exact funcPh_ok H
  · split at H
    · rename_i q
      obtain rfl := of_decide_eq_true q
      split at H
      · exact extPh_ok H
      · exact done_ok H
    · exact done_ok H
  · exact done_ok H
end
end Mine

namespace Mine
noncomputable abbrev tS (l : List Nat) : Str := ⟨⟨l⟩⟩
section
variable {prog : Program} {w : World} {A : Around} {P : Result → Shared → Prop} {s : Shared}

theorem bi_ok {id : String} {args : Args} {B : Builtin} (hb : entryFor table id = some B)
    (H : wpOwn (model prog w) A (.builtin id args) (B args) (postC prog w A P) (postE P) s) : codeAny (model prog w) A (.builtin id args) P s := by
  refine y_code _ _ _ _ _ _ ?_
  show wpOwn _ _ _ (match entryFor table id with | some B => B args | none => unsupported ((withoutEnding? id "#data").getD id)) _ _ _
  rw [hb]; exact H
theorem own_retStr {c : Code} {x : Str} {Q : Fin → Shared → Prop} {E : Value → Shared → Prop} (hl : x.length ≤ sizeLine)
    (H : wpOwn (model prog w) A c PySem.fresh (fun tk s' => wpOwn (model prog w) A c (ret (.str x tk)) Q E s') (fun _ _ => False) s) : wpOwn (model prog w) A c (retStr x) Q E s := by
  unfold retStr mkStr
  rw [if_neg (Nat.not_lt.mpr hl)]
  refine wpOwn_bind (wpOwn_bind (wpOwn_mono H (fun tk s' h' => ?_) fun _ _ z => z.elim))
  exact wpOwn_of_wpAny (wpAny_pure h')

/-- a text and a text behind it -/
noncomputable def addPh (a b : Str) (els : Ph) : Ph := .hint fun n => match n with
  | 0 => els
  | _ => .need (.add a b) <| .andThen Nat PySem.fresh fun tk => .done (ret (.str (tS (a.cps.toList ++ b.cps.toList)) tk))
theorem addPh_ok {a b : Str} {ta tb : Nat} (H : PhW prog w A (.builtin "str.__add__" ⟨[.str a ta, .str b tb], []⟩) (postC prog w A P) (postE P) (addPh a b (.done (DD (.builtin "str.__add__" ⟨[.str a ta, .str b tb], []⟩)))) s) :
    codeAny (model prog w) A (.builtin "str.__add__" ⟨[.str a ta, .str b tb], []⟩) P s := by
  unfold addPh PhW at H
  obtain ⟨n, H⟩ := H
  cases n with
  | zero => exact done_ok H
  | succ n =>
    dsimp only at H
    unfold PhW at H
    obtain ⟨⟨h1, h2, h3⟩, H⟩ := H
    refine bi_ok (B := Builtin.«str.__add__») (entryFor_of_tree (by kernel_rfl)) ?_
    have e : Builtin.«str.__add__» ⟨[.str a ta, .str b tb], []⟩ = (if (a.length == 0) = true then _ else if (b.length == 0) = true then _ else retStr (a ++ b)) := rfl
    rw [e, if_neg (by simpa using h1), if_neg (by simpa using h2)]
    have ee : a ++ b = tS (a.cps.toList ++ b.cps.toList) := by
      show Str.mk (a.cps ++ b.cps) = _
      congr 1
      apply Array.ext'
      simp
    have hl : (a ++ b).length = a.length + b.length := by
      rw [ee]
      show (a.cps.toList ++ b.cps.toList).toArray.size = _
      simp [Str.length]
    refine own_retStr (by rw [hl]; exact h3) ?_
    rw [ee]
    unfold PhW at H
    exact H

/-- two texts beside each other -/
noncomputable def eqPh (ne : Bool) (a b : Str) (els : Ph) : Ph := .hint fun n => match n with
  | 0 => els
  | 1 => .need (.eq a b) <| .done (ret (.bool (!ne)))
  | _ => .need (.ne a b) <| .done (ret (.bool ne))
theorem eqPh_ok {a b : Str} {ta tb : Nat} (H : PhW prog w A (.builtin "str.__eq__" ⟨[.str a ta, .str b tb], []⟩) (postC prog w A P) (postE P) (eqPh false a b (.done (DD (.builtin "str.__eq__" ⟨[.str a ta, .str b tb], []⟩)))) s) :
    codeAny (model prog w) A (.builtin "str.__eq__" ⟨[.str a ta, .str b tb], []⟩) P s := by
  unfold eqPh PhW at H
  obtain ⟨n, H⟩ := H
  have e : Builtin.«str.__eq__» ⟨[.str a ta, .str b tb], []⟩ = ret (.bool (a.cps.toList == b.cps.toList)) := rfl
  match n with
  | 0 => exact done_ok H
  | 1 =>
    have H : a.cps.toList = b.cps.toList ∧ wpOwn (model prog w) A (.builtin "str.__eq__" ⟨[.str a ta, .str b tb], []⟩) (ret (.bool true)) (postC prog w A P) (postE P) s := H
    refine bi_ok (B := Builtin.«str.__eq__») (entryFor_of_tree (by kernel_rfl)) ?_
    rw [e, beq_iff_eq.mpr H.1]
    exact H.2
  | n + 2 =>
    have H : a.cps.toList ≠ b.cps.toList ∧ wpOwn (model prog w) A (.builtin "str.__eq__" ⟨[.str a ta, .str b tb], []⟩) (ret (.bool false)) (postC prog w A P) (postE P) s := H
    refine bi_ok (B := Builtin.«str.__eq__») (entryFor_of_tree (by kernel_rfl)) ?_
    rw [e, beq_eq_false_iff_ne.mpr H.1]
    exact H.2
theorem nePh_ok {a b : Str} {ta tb : Nat} (H : PhW prog w A (.builtin "str.__ne__" ⟨[.str a ta, .str b tb], []⟩) (postC prog w A P) (postE P) (eqPh true a b (.done (DD (.builtin "str.__ne__" ⟨[.str a ta, .str b tb], []⟩)))) s) :
    codeAny (model prog w) A (.builtin "str.__ne__" ⟨[.str a ta, .str b tb], []⟩) P s := by
  unfold eqPh PhW at H
  obtain ⟨n, H⟩ := H
  have e : Builtin.«str.__ne__» ⟨[.str a ta, .str b tb], []⟩ = ret (.bool (a.cps.toList != b.cps.toList)) := rfl
  match n with
  | 0 => exact done_ok H
  | 1 =>
    have H : a.cps.toList = b.cps.toList ∧ wpOwn (model prog w) A (.builtin "str.__ne__" ⟨[.str a ta, .str b tb], []⟩) (ret (.bool false)) (postC prog w A P) (postE P) s := H
    refine bi_ok (B := Builtin.«str.__ne__») (entryFor_of_tree (by kernel_rfl)) ?_
    have : (a.cps.toList != b.cps.toList) = false := by unfold bne; rw [beq_iff_eq.mpr H.1]; rfl
    rw [e, this]
    exact H.2
  | n + 2 =>
    have H : a.cps.toList ≠ b.cps.toList ∧ wpOwn (model prog w) A (.builtin "str.__ne__" ⟨[.str a ta, .str b tb], []⟩) (ret (.bool true)) (postC prog w A P) (postE P) s := H
    refine bi_ok (B := Builtin.«str.__ne__») (entryFor_of_tree (by kernel_rfl)) ?_
    have : (a.cps.toList != b.cps.toList) = true := by unfold bne; rw [beq_eq_false_iff_ne.mpr H.1]; rfl
    rw [e, this]
    exact H.2

/-- is a sign a figure -/
noncomputable def digPh (a : Str) (els : Ph) : Ph := .hint fun n => match n with
  | 0 => els
  | 1 => .need (.dig a) <| .done (ret (.bool true))
  | _ => .need (.nodig a) <| .done (ret (.bool false))
theorem digPh_ok {a : Str} {ta : Nat} (H : PhW prog w A (.builtin "str.isdigit" ⟨[.str a ta], []⟩) (postC prog w A P) (postE P) (digPh a (.done (DD (.builtin "str.isdigit" ⟨[.str a ta], []⟩)))) s) :
    codeAny (model prog w) A (.builtin "str.isdigit" ⟨[.str a ta], []⟩) P s := by
  unfold digPh PhW at H
  obtain ⟨n, H⟩ := H
  have e : Builtin.«str.isdigit» ⟨[.str a ta], []⟩ = ret (.bool (a.length > 0 && a.cps.all Unicode.isDigit)) := rfl
  match n with
  | 0 => exact done_ok H
  | 1 =>
    have H : (a.cps.toList ≠ [] ∧ a.cps.all Unicode.isDigit = true) ∧ wpOwn (model prog w) A (.builtin "str.isdigit" ⟨[.str a ta], []⟩) (ret (.bool true)) (postC prog w A P) (postE P) s := H
    refine bi_ok (B := Builtin.«str.isdigit») (entryFor_of_tree (by kernel_rfl)) ?_
    have hl : a.length > 0 := by
      have := H.1.1
      show 0 < a.cps.size
      rw [← Array.length_toList]
      exact List.length_pos_iff.mpr this
    rw [e, H.1.2, decide_eq_true hl]
    exact H.2
  | n + 2 =>
    have H : a.cps.all Unicode.isDigit = false ∧ wpOwn (model prog w) A (.builtin "str.isdigit" ⟨[.str a ta], []⟩) (ret (.bool false)) (postC prog w A P) (postE P) s := H
    refine bi_ok (B := Builtin.«str.isdigit») (entryFor_of_tree (by kernel_rfl)) ?_
    rw [e, H.1, Bool.and_false]
    exact H.2

theorem slice_list (c : Nat) (r : List Nat) : (Builtin.Str.strSliceIndices (some 1) none 1 (r.length + 1)).filterMap ((⟨c :: r⟩ : Array Nat)[·]?) = r := by
  have e1 : Builtin.Str.strSliceIndices (some 1) none 1 (r.length + 1) = (List.range r.length).map (· + 1) := by
    unfold Builtin.Str.strSliceIndices sliceRange
    have h1 : max (0 : Int) (min 1 ((r.length + 1 : Nat) : Int)) = 1 := by omega
    simp only [show ¬ ((1 : Int) < 0) by decide, if_false, show (1 : Int) > 0 by decide, if_true, h1]
    have h2 : (if (1 : Int) < ((r.length + 1 : Nat) : Int) then ((((r.length + 1 : Nat) : Int) - 1 + 1 - 1) / 1) else 0).toNat = r.length := by
      split
      · omega
      · omega
    rw [h2]
    apply List.map_congr_left
    intro k _
    omega
  rw [e1]
  rw [List.filterMap_map]
  apply List.ext_getElem?
  intro n
  have : ((fun x => (⟨c :: r⟩ : Array Nat)[x]?) ∘ fun x => x + 1) = fun k => r[k]? := by
    funext k
    simp
  rw [this]
  have key : ∀ (l : List Nat), (List.range l.length).filterMap (fun k => l[k]?) = l := by
    intro l
    induction l with
    | nil => rfl
    | cons x xs ih =>
      rw [List.length_cons, List.range_succ_eq_map, List.filterMap_cons]
      simp only [List.getElem?_cons_zero, List.filterMap_map]
      congr 1
  rw [key]
noncomputable abbrev xSliceParts := PySem.W.Fast.tw16027321863103595668
theorem xSliceParts_eq : xSliceParts = Builtin.Str.strSliceParts := PySem.W.Fast.te16027321863103595668.symm
/-- a text without its first sign -/
noncomputable def slicePh (a : Str) (i : Value) (els : Ph) : Ph := .hint fun n => match n with
  | 0 => els
  | _ => .andThen Value (xTypeOf i) fun t => match (t == .type "slice") with
    | false => .stop
    | true => .andThen (Option Int × Option Int × Int) (xSliceParts i) fun p => match decide (p = (some 1, none, 1)) with
      | false => .stop
      | true => match a.cps.toList with
        | [] => .stop
        | _ :: r => .need (.size r) <| .andThen Nat PySem.fresh fun tk => .done (ret (.str (tS r) tk))
theorem slicePh_ok {a : Str} {ta : Nat} {i : Value} (H : PhW prog w A (.builtin "str.__getitem__" ⟨[.str a ta, i], []⟩) (postC prog w A P) (postE P) (slicePh a i (.done (DD (.builtin "str.__getitem__" ⟨[.str a ta, i], []⟩)))) s) :
    codeAny (model prog w) A (.builtin "str.__getitem__" ⟨[.str a ta, i], []⟩) P s := by
  unfold slicePh PhW at H
  obtain ⟨n, H⟩ := H
  have no : ∀ e (s' : Shared), False → postE P e s' := fun _ _ z => z.elim
  cases n with
  | zero => exact done_ok H
  | succ n =>
    dsimp only at H
    unfold PhW at H
    rw [xTypeOf_eq] at H
    refine bi_ok (B := Builtin.«str.__getitem__») (entryFor_of_tree (by kernel_rfl)) ?_
    have e : Builtin.«str.__getitem__» ⟨[.str a ta, i], []⟩ = (typeOf i >>= fun t => if (t == .type "slice") = true then (Builtin.Str.strSliceParts i >>= fun p => match p with
      | (lo, hi, step) => if (step == 1 && (Builtin.Str.strSliceIndices lo hi step a.length).length == a.length) = true then _ else retStr ⟨((Builtin.Str.strSliceIndices lo hi step a.length).filterMap (a.cps[·]?)).toArray⟩) else _) := rfl
    rw [e]
    refine wpOwn_bind (wpOwn_mono H (fun t s₁ h₁ => ?_) no)
    dsimp only at h₁
    cases ht : (t == .type "slice") with
    | false => rw [ht] at h₁; exact h₁.elim
    | true =>
      rw [ht] at h₁
      rw [if_pos rfl]
      dsimp only at h₁
      unfold PhW at h₁
      rw [xSliceParts_eq] at h₁
      refine wpOwn_bind (wpOwn_mono h₁ (fun p s₂ h₂ => ?_) no)
      dsimp only at h₂
      by_cases hp : p = (some 1, none, 1)
      · subst hp
        rw [decide_eq_true rfl] at h₂
        dsimp only at h₂ ⊢
        obtain ⟨⟨l⟩⟩ := a
        cases l with
        | nil => exact h₂.elim
        | cons c r =>
          have h₂ : r.length ≤ sizeLine ∧ wpOwn (model prog w) A (.builtin "str.__getitem__" ⟨[.str ⟨⟨c :: r⟩⟩ ta, i], []⟩) PySem.fresh (fun tk s' => wpOwn (model prog w) A (.builtin "str.__getitem__" ⟨[.str ⟨⟨c :: r⟩⟩ ta, i], []⟩) (ret (.str (tS r) tk)) (postC prog w A P) (postE P) s') (fun _ _ => False) s₂ := h₂
          have hs := slice_list c r
          have hn : (Str.mk ⟨c :: r⟩).length = r.length + 1 := rfl
          have hne : ((1 : Int) == 1 && (Builtin.Str.strSliceIndices (some 1) none 1 (Str.mk ⟨c :: r⟩).length).length == (Str.mk ⟨c :: r⟩).length) = false := by
            rw [hn]
            have : (Builtin.Str.strSliceIndices (some 1) none 1 (r.length + 1)).length = r.length := by
              unfold Builtin.Str.strSliceIndices sliceRange
              have h1 : max (0 : Int) (min 1 ((r.length + 1 : Nat) : Int)) = 1 := by omega
              simp only [show ¬ ((1 : Int) < 0) by decide, if_false, show (1 : Int) > 0 by decide, if_true, h1, List.length_map, List.length_range]
              split <;> omega
            rw [this]
            simp
          rw [hne, if_neg Bool.false_ne_true]
          rw [hn]
          have e3 : (Str.mk ⟨(Builtin.Str.strSliceIndices (some 1) none 1 (r.length + 1)).filterMap ((Str.mk ⟨c :: r⟩).cps[·]?)⟩) = tS r := by
            show Str.mk ⟨_⟩ = Str.mk ⟨r⟩
            congr 2
          show wpOwn _ _ _ (retStr (Str.mk ⟨(Builtin.Str.strSliceIndices (some 1) none 1 (r.length + 1)).filterMap ((Str.mk ⟨c :: r⟩).cps[·]?)⟩)) _ _ _
          rw [e3]
          exact own_retStr h₂.1 h₂.2
      · rw [decide_eq_false hp] at h₂; exact h₂.elim

noncomputable abbrev xCallSpecial : Value → Str → List Value → List (Str × Value) → Sem (Option Value) := @PySem.W.Fast.tw9201129301070521445
noncomputable abbrev xAsIndex := PySem.W.Fast.tw17445541508966151043
noncomputable abbrev xLetGo : List Value → List Value → Sem Unit := @PySem.W.Fast.tw3461954006293484611
theorem xCallSpecial_eq : xCallSpecial = @callSpecial? := PySem.W.Fast.te9201129301070521445.symm
theorem xAsIndex_eq : xAsIndex = asIndex := PySem.W.Fast.te17445541508966151043.symm
theorem xLetGo_eq : xLetGo = @letGo := PySem.W.Fast.te3461954006293484611.symm
/-- how long a text is -/
noncomputable def lenPh (a : Value) (els : Ph) : Ph := .hint fun n => match n with
  | 0 => els
  | _ => .andThen (Option Value) (xCallSpecial a "__len__" [] []) fun r => match r with
    | none => .stop
    | some v => .andThen Int (xAsIndex v) fun n => .andThen Unit (xLetGo [v] []) fun _ => .need (.small n) <| .andThen Nat PySem.fresh fun tk => .done (ret (.int n tk))
theorem lenPh_ok {a : Value} (H : PhW prog w A (.builtin "len" ⟨[a], []⟩) (postC prog w A P) (postE P) (lenPh a (.done (DD (.builtin "len" ⟨[a], []⟩)))) s) :
    codeAny (model prog w) A (.builtin "len" ⟨[a], []⟩) P s := by
  unfold lenPh PhW at H
  obtain ⟨n, H⟩ := H
  have no : ∀ e (s' : Shared), False → postE P e s' := fun _ _ z => z.elim
  cases n with
  | zero => exact done_ok H
  | succ n =>
    dsimp only at H
    unfold PhW at H
    rw [xCallSpecial_eq] at H
    refine bi_ok (B := Builtin.«len») (entryFor_of_tree (by kernel_rfl)) ?_
    show wpOwn (model prog w) A _ (callSpecial? a "__len__" >>= _) _ _ s
    refine wpOwn_bind (wpOwn_mono H (fun r s₁ h₁ => ?_) no)
    cases r with
    | none => exact h₁.elim
    | some v =>
      dsimp only at h₁ ⊢
      unfold PhW at h₁
      rw [xAsIndex_eq] at h₁
      refine wpOwn_bind (fun Γ p hc hΓ => ?_)
      rw [Sem.wp_holding]
      refine Sem.wp_mono _ Γ _ (fun n p' s₂ h₂ => ?_) (fun _ _ _ z => z.elim) p s₁ (h₁ Γ p hc hΓ)
      unfold PhW at h₂
      rw [xLetGo_eq] at h₂
      refine wpOwn_bind (wpOwn_mono h₂ (fun _ s₃ h₃ => ?_) no)
      unfold PhW at h₃
      obtain ⟨⟨q1, q2⟩, h₃⟩ := h₃
      rw [if_neg (Int.not_lt.mpr q1)]
      rw [if_neg (by omega)]
      unfold PhW at h₃
      exact wpOwn_bind (wpOwn_bind (wpOwn_mono h₃ (fun tk s₄ h₄ => wpOwn_of_wpAny (wpAny_pure h₄)) no))
noncomputable abbrev xSpecialOf := PySem.W.Fast.tw4214721358667687652
theorem xSpecialOf_eq : xSpecialOf = specialOf := PySem.W.Fast.te4214721358667687652.symm
/-- the first sign of a text -/
noncomputable def idxPh (a : Str) (i : Value) (els : Ph) : Ph := .hint fun n => match n with
  | 0 => els
  | _ => .andThen Value (xTypeOf i) fun t => match (t == .type "slice") with
    | true => .stop
    | false => .andThen (Option Value) (xSpecialOf i "__index__") fun o => match o.isNone with
      | true => .stop
      | false => .andThen Int (xAsIndex i) fun k => match decide (k = 0) with
        | false => .stop
        | true => match a.cps.toList with
          | [] => .stop
          | c :: _ => .andThen Nat PySem.fresh fun tk => .done (ret (.str (tS [c]) tk))
theorem idxPh_ok {a : Str} {ta : Nat} {i : Value} (H : PhW prog w A (.builtin "str.__getitem__" ⟨[.str a ta, i], []⟩) (postC prog w A P) (postE P) (idxPh a i (.done (DD (.builtin "str.__getitem__" ⟨[.str a ta, i], []⟩)))) s) :
    codeAny (model prog w) A (.builtin "str.__getitem__" ⟨[.str a ta, i], []⟩) P s := by
  unfold idxPh PhW at H
  obtain ⟨n, H⟩ := H
  have no : ∀ e (s' : Shared), False → postE P e s' := fun _ _ z => z.elim
  cases n with
  | zero => exact done_ok H
  | succ n =>
    dsimp only at H
    unfold PhW at H
    rw [xTypeOf_eq] at H
    refine bi_ok (B := Builtin.«str.__getitem__») (entryFor_of_tree (by kernel_rfl)) ?_
    show wpOwn (model prog w) A _ (typeOf i >>= _) _ _ s
    refine wpOwn_bind (wpOwn_mono H (fun t s₁ h₁ => ?_) no)
    dsimp only at h₁
    cases ht : (t == .type "slice") with
    | true => rw [ht] at h₁; exact h₁.elim
    | false =>
      rw [ht] at h₁
      dsimp only at h₁
      unfold PhW at h₁
      rw [xSpecialOf_eq] at h₁
      rw [if_neg Bool.false_ne_true]
      refine wpOwn_bind (wpOwn_mono h₁ (fun o s₂ h₂ => ?_) no)
      dsimp only at h₂
      cases ho : o.isNone with
      | true => rw [ho] at h₂; exact h₂.elim
      | false =>
        rw [ho] at h₂
        dsimp only at h₂
        unfold PhW at h₂
        rw [xAsIndex_eq] at h₂
        rw [if_neg (by first | exact Bool.false_ne_true | (rw [ho]; exact Bool.false_ne_true))]
        refine wpOwn_bind (wpOwn_mono h₂ (fun k s₃ h₃ => ?_) no)
        dsimp only at h₃
        by_cases hk : k = 0
        · subst hk
          rw [decide_eq_true rfl] at h₃
          dsimp only at h₃
          obtain ⟨⟨l⟩⟩ := a
          cases l with
          | nil => exact h₃.elim
          | cons c r =>
            have h₃ : wpOwn (model prog w) A (.builtin "str.__getitem__" ⟨[.str ⟨⟨c :: r⟩⟩ ta, i], []⟩) PySem.fresh (fun tk s' => wpOwn (model prog w) A (.builtin "str.__getitem__" ⟨[.str ⟨⟨c :: r⟩⟩ ta, i], []⟩) (ret (.str (tS [c]) tk)) (postC prog w A P) (postE P) s') (fun _ _ => False) s₃ := h₃
            have hx : (seqIndex? 0 (Str.mk ⟨c :: r⟩).length).bind ((Str.mk ⟨c :: r⟩).cps[·]?) = some c := by
              have : seqIndex? 0 (Str.mk ⟨c :: r⟩).length = some 0 := by
                unfold seqIndex?
                have hn : (Str.mk ⟨c :: r⟩).length = r.length + 1 := rfl
                rw [hn]
                simp
              rw [this]
              rfl
            rw [if_neg (by decide)]
            rw [hx]
            exact own_retStr (by show 1 ≤ sizeLine; decide) h₃
        · rw [decide_eq_false hk] at h₃; exact h₃.elim
/-- a text of figures as an int -/
noncomputable def intPh (x : Str) (els : Ph) : Ph := .hint fun n => match n with
  | 0 => els
  | _ => .need (.txt x) <| .andThen Nat PySem.fresh fun tk => .done (ret (.int ((PySem.intText? x).getD 0) tk))
theorem intPh_ok {x : Str} {u : Nat} (H : PhW prog w A (.builtin "int.__new__" ⟨[.type "int", .str x u], []⟩) (postC prog w A P) (postE P) (intPh x (.done (DD (.builtin "int.__new__" ⟨[.type "int", .str x u], []⟩)))) s) :
    codeAny (model prog w) A (.builtin "int.__new__" ⟨[.type "int", .str x u], []⟩) P s := by
  unfold intPh PhW at H
  obtain ⟨n, H⟩ := H
  cases n with
  | zero => exact done_ok H
  | succ n =>
    dsimp only at H
    unfold PhW at H
    obtain ⟨⟨hl, hn⟩, H⟩ := H
    refine bi_ok (B := Builtin.«int.__new__») (entryFor_of_tree (by kernel_rfl)) ?_
    intro Γ p hc hΓ
    have z1 : wpOwn (model prog w) A (.builtin "int.__new__" ⟨[.type "int", .str x u], []⟩) (ret (.int ((PySem.intText? x).getD 0) s.toks)) (postC prog w A P) (postE P) { s with toks := s.toks + 1 } := H Γ p hc hΓ
    have z : P (.ok (.ret (.int ((PySem.intText? x).getD 0) s.toks))) { s with toks := s.toks + 1 } := z1 Γ p hc hΓ
    obtain ⟨m, hm⟩ := Option.isSome_iff_exists.mp hn
    rw [hm] at z
    have g := KIN.gives_text (u := u) hl hm prog w A P s z
    refine Sem.wp_mono _ Γ _ (fun fin p' s' h' => ?_) (fun _ _ _ h' => h') p s (g Γ p ?_)
    · cases fin <;> exact h'
    · have := hΓ.in
      rw [hc, Around.under_plainId (by decide +kernel)] at this
      exact this
noncomputable abbrev xIsSubtype := PySem.W.Fast.tw16098473122060591676
theorem xIsSubtype_eq : xIsSubtype = isSubtype := PySem.W.Fast.te16098473122060591676.symm
noncomputable abbrev xNewObj : Value → Data → Option Addr → Sem Value := @PySem.W.Fast.tw13933868625532259289
theorem xNewObj_eq : xNewObj = @newObjAsIs := PySem.W.Fast.te13933868625532259289.symm
theorem own_mkStr {c : Code} {x : Str} {Q : Value → Shared → Prop} {E : Value → Shared → Prop} (hl : x.length ≤ sizeLine)
    (H : wpOwn (model prog w) A c PySem.fresh (fun tk s' => Q (.str x tk) s') (fun _ _ => False) s) : wpOwn (model prog w) A c (mkStr x) Q E s := by
  unfold mkStr
  rw [if_neg (Nat.not_lt.mpr hl)]
  exact wpOwn_bind (wpOwn_mono H (fun tk s' h' => wpOwn_of_wpAny (wpAny_pure h')) fun _ _ z => z.elim)
/-- a text made by an own class -/
noncomputable def strNewPh (C : Addr) (x : Str) (els : Ph) : Ph := .hint fun n => match n with
  | 0 => els
  | _ => .andThen Bool (xIsType (.ref C)) fun b => match b with
    | false => .stop
    | true => .andThen Bool (xIsSubtype (.ref C) (.type "str")) fun b => match b with
      | false => .stop
      | true => .need (.str x) <| .andThen Addr (PySem.alloc { cls := .type "dict", data := .dict #[] }) fun d => .andThen Nat PySem.fresh fun tk => .done (xNewObj (.ref C) (.prim (.str x tk)) (some d) >>= ret)
theorem strNewPh_ok {C : Addr} {x : Str} {u : Nat} (H : PhW prog w A (.builtin "str.__new__" ⟨[.ref C, .str x u], []⟩) (postC prog w A P) (postE P) (strNewPh C x (.done (DD (.builtin "str.__new__" ⟨[.ref C, .str x u], []⟩)))) s) :
    codeAny (model prog w) A (.builtin "str.__new__" ⟨[.ref C, .str x u], []⟩) P s := by
  unfold strNewPh PhW at H
  obtain ⟨n, H⟩ := H
  have no : ∀ e (s' : Shared), False → postE P e s' := fun _ _ z => z.elim
  cases n with
  | zero => exact done_ok H
  | succ n =>
    dsimp only at H
    unfold PhW at H
    rw [xIsType_eq] at H
    refine bi_ok (B := Builtin.«str.__new__») (entryFor_of_tree (by kernel_rfl)) ?_
    show wpOwn (model prog w) A _ (isType (.ref C) >>= _) _ _ s
    refine wpOwn_bind (wpOwn_mono H (fun b s₁ h₁ => ?_) no)
    cases b with
    | false => exact h₁.elim
    | true =>
      dsimp only at h₁
      unfold PhW at h₁
      rw [xIsSubtype_eq] at h₁
      show wpOwn (model prog w) A _ (isSubtype (.ref C) (.type "str") >>= _) _ _ s₁
      refine wpOwn_bind (wpOwn_mono h₁ (fun b s₂ h₂ => ?_) no)
      cases b with
      | false => exact h₂.elim
      | true =>
        dsimp only at h₂
        unfold PhW at h₂
        obtain ⟨hl, h₂⟩ := h₂
        unfold PhW at h₂
        refine y_eq _ _ _ _ _ _ _ _ _ (rule "str.__new__.subclass" >>= fun _ => PySem.alloc { cls := .type "dict", data := .dict #[] } >>= fun d => mkStr x >>= fun v => newObj (.ref C) (.prim v) (some d) >>= ret) (by kernel_rfl) ?_
        refine wpOwn_bind (wpOwn_of_wpAny (wpAny_rule ?_))
        refine wpOwn_bind (wpOwn_mono h₂ (fun d s₃ h₃ => ?_) no)
        unfold PhW at h₃
        refine wpOwn_bind (own_mkStr hl (wpOwn_mono h₃ (fun tk s₄ h₄ => ?_) fun _ _ z => z))
        unfold PhW at h₄
        rw [xNewObj_eq] at h₄
        have e : newObj (.ref C) (.prim (.str x tk)) (some d) = newObjAsIs (.ref C) (.prim (.str x tk)) (some d) := by
          have : (Data.prim (.str x tk)).pastItsLine = none := by
            simp only [Data.pastItsLine]
            first
              | rw [if_neg (Nat.not_lt.mpr hl)]
              | simp [Nat.not_lt.mpr hl]
          unfold newObj
          simp only [this]
        rw [e]
        exact h₄
noncomputable def xDt (prog : Program) (A : Around) (c : Code) : Ph := match c with
  | .builtin id args => match args with
    | ⟨[.str a ta, .str b tb], []⟩ => match decide (id = "str.__add__") with
      | true => addPh a b (.done (DD (.builtin id ⟨[.str a ta, .str b tb], []⟩)))
      | false => match decide (id = "str.__eq__") with
        | true => eqPh false a b (.done (DD (.builtin id ⟨[.str a ta, .str b tb], []⟩)))
        | false => match decide (id = "str.__ne__") with
          | true => eqPh true a b (.done (DD (.builtin id ⟨[.str a ta, .str b tb], []⟩)))
          | false => .done (DD (.builtin id ⟨[.str a ta, .str b tb], []⟩))
    | ⟨[.str a ta, .ref i], []⟩ => match decide (id = "str.__getitem__") with
      | true => slicePh a (.ref i) (.done (DD (.builtin id ⟨[.str a ta, .ref i], []⟩)))
      | false => .done (DD (.builtin id ⟨[.str a ta, .ref i], []⟩))
    | ⟨[.str a ta, .int k tk], []⟩ => match decide (id = "str.__getitem__") with
      | true => idxPh a (.int k tk) (.done (DD (.builtin id ⟨[.str a ta, .int k tk], []⟩)))
      | false => .done (DD (.builtin id ⟨[.str a ta, .int k tk], []⟩))
    | ⟨[.type T, .str a ta], []⟩ => match decide (id = "int.__new__" ∧ T = "int") with
      | true => intPh a (.done (DD (.builtin id ⟨[.type T, .str a ta], []⟩)))
      | false => .done (DD (.builtin id ⟨[.type T, .str a ta], []⟩))
    | ⟨[.ref C, .str a ta], []⟩ => match decide (id = "str.__new__") with
      | true => strNewPh C a (.done (DD (.builtin id ⟨[.ref C, .str a ta], []⟩)))
      | false => .done (DD (.builtin id ⟨[.ref C, .str a ta], []⟩))
    | ⟨[.str a ta], []⟩ => match decide (id = "str.isdigit") with
      | true => digPh a (.done (DD (.builtin id ⟨[.str a ta], []⟩)))
      | false => match decide (id = "len") with
        | true => lenPh (.str a ta) (.done (DD (.builtin id ⟨[.str a ta], []⟩)))
        | false => .done (DD (.builtin id ⟨[.str a ta], []⟩))
    | args => xD prog A (.builtin id args)
  | c => xD prog A c
theorem xDt_ok (prog : Program) (w : World) (A : Around) (c : Code) (P : Result → Shared → Prop) (s : Shared)
    (H : PhW prog w A c (postC prog w A P) (postE P) (xDt prog A c) s) : codeAny (model prog w) A c P s := by
  unfold xDt at H
  split at H
  · split at H
    · split at H
      · rename_i q; obtain rfl := of_decide_eq_true q; exact addPh_ok H
      · split at H
        · rename_i q; obtain rfl := of_decide_eq_true q; exact eqPh_ok H
        · split at H
          · rename_i q; obtain rfl := of_decide_eq_true q; exact nePh_ok H
          · exact done_ok H
    · split at H
      · rename_i q; obtain rfl := of_decide_eq_true q; exact slicePh_ok H
      · exact done_ok H
    · split at H
      · rename_i q; obtain rfl := of_decide_eq_true q; exact idxPh_ok H
      · exact done_ok H
    · split at H
      · rename_i q; obtain ⟨rfl, rfl⟩ := of_decide_eq_true q; exact intPh_ok H
      · exact done_ok H
    · split at H
      · rename_i q; obtain rfl := of_decide_eq_true q; exact strNewPh_ok H
      · exact done_ok H
    · split at H
      · rename_i q; obtain rfl := of_decide_eq_true q; exact digPh_ok H
      · split at H
        · rename_i q; obtain rfl := of_decide_eq_true q; exact lenPh_ok H
        · exact done_ok H
    · exact xD_ok _ _ _ _ _ _ H
  · exact xD_ok _ _ _ _ _ _ H
end
end Mine

namespace Mine
noncomputable abbrev xRichCompare := PySem.W.Fast.tw9423741818375054981
theorem xRichCompare_eq : xRichCompare = richCompare := PySem.W.Fast.te9423741818375054981.symm
noncomputable abbrev xTruthOfDropped := PySem.W.Fast.tw3387353159717490800
theorem xTruthOfDropped_eq : xTruthOfDropped = truthOfDropped := PySem.W.Fast.te3387353159717490800.symm
section
variable {prog : Program} {w : World} {A : Around} {P : Result → Shared → Prop} {s : Shared}
theorem own_eqBool {c : Code} {x y : Value} {Q : Bool → Shared → Prop} {E : Value → Shared → Prop} (hne : x ≠ y) (hf : noFloat x = true)
    (H : wpOwn (model prog w) A c (richCompare .Eq x y) (fun v s' => wpOwn (model prog w) A c (truthOfDropped v) Q (fun _ _ => False) s') (fun _ _ => False) s) : wpOwn (model prog w) A c (eqBool x y) Q E s := by
  intro Γ p hc hΓ
  unfold eqBool
  rw [Sem.wp_holding]
  rw [if_neg (by simpa using hne)]
  have key : Sem.wp (model prog w) Γ (richCompare .Eq x y >>= fun v => truthOfDropped v) (fun a _ s' => Q a s') (fun e _ s' => E e s') p s := by
    rw [Sem.wp_bind']
    refine Sem.wp_mono _ Γ _ (fun v p' s' h' => ?_) (fun _ _ _ h' => h'.elim) p s (H Γ p hc hΓ)
    exact Sem.wp_mono _ Γ _ (fun _ _ _ h => h) (fun _ _ _ h => h.elim) p' s' (h' Γ p' hc hΓ)
  cases x <;> first | exact key | (cases hf)

noncomputable abbrev xTryCompare := PySem.W.Fast.tw3989567798202555795
theorem xTryCompare_eq : xTryCompare = tryCompare := PySem.W.Fast.te3989567798202555795.symm
/-- x == y, also of two objects -/
noncomputable def rcEqPh (A : Around) (c : Code) (x y : Value) (k : Value → Ph) : Ph := match x with
  | .ref p => match y with
    | .ref q => match Nat.blt (A.under c).units 9900 with
      | false => .stop
      | true => .andThen Value (xTypeOf (.ref p)) fun ta => .andThen Value (xTypeOf (.ref q)) fun tb => match decide (ta = tb) with
        | false => .stop
        | true => .andThen (Option Value) (xTryCompare (.ref p) "__eq__" (.ref q)) fun r => match r with
          | none => .stop
          | some v => k v
    | y => .andThen Value (xRichCompare .Eq (.ref p) y) k
  | x => .andThen Value (xRichCompare .Eq x y) k
theorem rcEqPh_ok {c : Code} {x y : Value} {k : Value → Ph} {Q : Fin → Shared → Prop} {E : Value → Shared → Prop} (H : PhW prog w A c Q E (rcEqPh A c x y k) s) :
    wpOwn (model prog w) A c (richCompare .Eq x y) (fun v s' => PhW prog w A c Q E (k v) s') (fun _ _ => False) s := by
  unfold rcEqPh at H
  split at H
  · rename_i p
    split at H
    · rename_i q
      cases hu : Nat.blt (A.under c).units 9900 with
      | false => rw [hu] at H; exact H.elim
      | true =>
        rw [hu] at H
        dsimp only at H
        unfold PhW at H
        rw [xTypeOf_eq] at H
        unfold richCompare
        intro Γ p' hc hΓ
        rw [Sem.wp_holding]
        revert Γ p' hc hΓ
        refine wpOwn_bind (wpOwn_of_wpAny (wpAny_cRoomFor (Nat.le_of_ble_eq_true hu) ?_))
        show wpOwn (model prog w) A c (typeOf (.ref p) >>= _) _ _ s
        refine wpOwn_bind (wpOwn_mono H (fun ta s₃ h₃ => ?_) fun _ _ z => z)
        unfold PhW at h₃
        refine wpOwn_bind (wpOwn_mono h₃ (fun tb s₄ h₄ => ?_) fun _ _ z => z)
        dsimp only at h₄
        by_cases hab : ta = tb
        · subst hab
          rw [decide_eq_true rfl] at h₄
          dsimp only at h₄
          unfold PhW at h₄
          rw [xTryCompare_eq] at h₄
          have hne : (ta != ta) = false := by simp
          simp only [hne, Bool.false_eq_true, if_false, pure_bind]
          refine wpOwn_bind (wpOwn_mono h₄ (fun r s₅ h₅ => ?_) fun _ _ z => z)
          cases r with
          | none => exact h₅.elim
          | some v => exact wpOwn_of_wpAny (wpAny_pure h₅)
        · rw [decide_eq_false hab] at h₄; exact h₄.elim
    · unfold PhW at H
      rw [xRichCompare_eq] at H
      exact H
  · unfold PhW at H
    rw [xRichCompare_eq] at H
    exact H
/-- the next two items of two lists, alike -/
noncomputable def lsEqPh (A : Around) (ti tc : Nat) (a b : Value) (i code : Int) (els : Ph) : Ph := .hint fun n => match n with
  | 0 => els
  | _ => match decide (code = 2 ∨ code = 3) with
    | false => .stop
    | true => .andThen (Array Value) (xListItems a) fun xs => .andThen (Array Value) (xListItems b) fun ys => match xs[i.toNat]? with
      | none => .stop
      | some x => match ys[i.toNat]? with
        | none => .stop
        | some y => .need (.diff x y) <| rcEqPh A (.builtin "list.__eq__.loop" ⟨[a, b, .int i ti, .int code tc], []⟩) x y fun v => .andThen Bool (xTruthOfDropped v) fun t => match t with
          | false => .stop
          | true => .done (again (.builtin "list.__eq__.loop" ⟨[a, b, rawInt (i + 1), rawInt code], []⟩))
theorem lsEqPh_ok {a b : Value} {i code : Int} {ti tc : Nat} (H : PhW prog w A (.builtin "list.__eq__.loop" ⟨[a, b, .int i ti, .int code tc], []⟩) (postC prog w A P) (postE P) (lsEqPh A ti tc a b i code (.done (DD (.builtin "list.__eq__.loop" ⟨[a, b, .int i ti, .int code tc], []⟩)))) s) :
    codeAny (model prog w) A (.builtin "list.__eq__.loop" ⟨[a, b, .int i ti, .int code tc], []⟩) P s := by
  unfold lsEqPh PhW at H
  obtain ⟨n, H⟩ := H
  have no : ∀ e (s' : Shared), False → postE P e s' := fun _ _ z => z.elim
  cases n with
  | zero => exact done_ok H
  | succ n =>
    dsimp only at H
    by_cases hcode : code = 2 ∨ code = 3
    · rw [decide_eq_true hcode] at H
      dsimp only at H
      unfold PhW at H
      rw [xListItems_eq] at H
      refine bi_ok (B := Builtin.«list.__eq__.loop») (entryFor_of_tree (by kernel_rfl)) ?_
      have start : wpOwn (model prog w) A (.builtin "list.__eq__.loop" ⟨[a, b, .int i ti, .int code tc], []⟩) (Builtin.«list.__eq__.loop» ⟨[a, b, .int i ti, .int code tc], []⟩) (postC prog w A P) (postE P) s := by
        rcases hcode with rfl | rfl
        all_goals
          show wpOwn (model prog w) A _ (Builtin.List.listItems a >>= fun xs => Builtin.List.listItems b >>= _) _ _ s
          refine wpOwn_bind (wpOwn_mono H (fun xs s₁ h₁ => ?_) no)
          unfold PhW at h₁
          refine wpOwn_bind (wpOwn_mono h₁ (fun ys s₂ h₂ => ?_) no)
          dsimp only at h₂
          cases hx : xs[i.toNat]? with
          | none => rw [hx] at h₂; exact h₂.elim
          | some x =>
            rw [hx] at h₂
            dsimp only at h₂
            cases hy : ys[i.toNat]? with
            | none => rw [hy] at h₂; exact h₂.elim
            | some y =>
              rw [hy] at h₂
              dsimp only at h₂
              unfold PhW at h₂
              obtain ⟨⟨q1, q2⟩, h₂⟩ := h₂
              dsimp only
              refine wpOwn_bind (own_eqBool q1 q2 (wpOwn_mono (rcEqPh_ok h₂) (fun v s₃ h₃ => ?_) fun _ _ z => z))
              unfold PhW at h₃
              rw [xTruthOfDropped_eq] at h₃
              refine wpOwn_mono h₃ (fun t s₄ h₄ => ?_) fun _ _ z => z
              cases t with
              | false => exact h₄.elim
              | true =>
                rw [if_pos rfl]
                exact h₄
      exact start
    · rw [decide_eq_false hcode] at H
      exact H.elim

noncomputable abbrev xIsInstance := PySem.W.Fast.tw6571733998842723752
theorem xIsInstance_eq : xIsInstance = isInstance := PySem.W.Fast.te6571733998842723752.symm
noncomputable abbrev xTupItems := PySem.W.Fast.tw16091673788111015977
theorem xTupItems_eq : xTupItems = Builtin.Tuple.tupleItemsOf := PySem.W.Fast.te16091673788111015977.symm
/-- two items, alike -/
noncomputable def itemEqPh (x y : Value) (k : Ph) : Ph := match x with
  | .bool p => match y with
    | .bool q => match p, q with
      | true, true => k
      | false, false => k
      | _, _ => .stop
    | _ => .stop
  | x => .need (.diff x y) <| .andThen Value (xRichCompare .Eq x y) fun v => .andThen Bool (xTruthOfDropped v) fun t => match t with
    | false => .stop
    | true => k
theorem itemEqPh_ok {c : Code} {x y : Value} {k : Ph} {Q : Fin → Shared → Prop} {E E' : Value → Shared → Prop} {R : Bool → Shared → Prop} (H : PhW prog w A c Q E (itemEqPh x y k) s)
    (hk : ∀ s'', PhW prog w A c Q E k s'' → R true s'') : wpOwn (model prog w) A c (eqBool x y) R E' s := by
  have same : ∀ b : Bool, PhW prog w A c Q E k s → wpOwn (model prog w) A c (eqBool (.bool b) (.bool b)) R E' s := by
    intro b h Γ p hc hΓ
    unfold eqBool
    rw [Sem.wp_holding, if_pos (by simp)]
    exact hk s h
  unfold itemEqPh at H
  split at H
  · rename_i p
    split at H
    · rename_i q
      split at H
      · exact same _ H
      · exact same _ H
      · exact H.elim
    · exact H.elim
  · unfold PhW at H
    obtain ⟨⟨q1, q2⟩, H⟩ := H
    unfold PhW at H
    rw [xRichCompare_eq] at H
    refine own_eqBool q1 q2 (wpOwn_mono H (fun v s₃ h₃ => ?_) fun _ _ z => z)
    unfold PhW at h₃
    rw [xTruthOfDropped_eq] at h₃
    refine wpOwn_mono h₃ (fun t s₄ h₄ => ?_) fun _ _ z => z
    cases t with
    | false => exact h₄.elim
    | true => exact hk s₄ h₄
/-- two pairs, alike -/
noncomputable def tupEqPh (a b : Value) (els : Ph) : Ph := .hint fun n => match n with
  | 0 => els
  | _ => .andThen Bool (xIsInstance b (.type "tuple")) fun t => match t with
    | false => .stop
    | true => .andThen (Array Value) (xTupItems a) fun xs => .andThen (Array Value) (xTupItems b) fun ys => match xs.toList with
      | [x₁, x₂] => match ys.toList with
        | [y₁, y₂] => itemEqPh x₁ y₁ <| itemEqPh x₂ y₂ <| .done (ret (.bool true))
        | _ => .stop
      | _ => .stop
theorem tupEqPh_ok {a b : Value} (H : PhW prog w A (.builtin "tuple.__eq__" ⟨[a, b], []⟩) (postC prog w A P) (postE P) (tupEqPh a b (.done (DD (.builtin "tuple.__eq__" ⟨[a, b], []⟩)))) s) :
    codeAny (model prog w) A (.builtin "tuple.__eq__" ⟨[a, b], []⟩) P s := by
  unfold tupEqPh PhW at H
  obtain ⟨n, H⟩ := H
  have no : ∀ e (s' : Shared), False → postE P e s' := fun _ _ z => z.elim
  cases n with
  | zero => exact done_ok H
  | succ n =>
    dsimp only at H
    unfold PhW at H
    rw [xIsInstance_eq] at H
    refine bi_ok (B := Builtin.«tuple.__eq__») (entryFor_of_tree (by kernel_rfl)) ?_
    show wpOwn (model prog w) A _ (isInstance b (.type "tuple") >>= _) _ _ s
    refine wpOwn_bind (wpOwn_mono H (fun t s₁ h₁ => ?_) no)
    cases t with
    | false => exact h₁.elim
    | true =>
      dsimp only at h₁
      unfold PhW at h₁
      rw [xTupItems_eq] at h₁
      show wpOwn (model prog w) A _ (Builtin.Tuple.tupleItemsOf a >>= _) _ _ s₁
      refine wpOwn_bind (wpOwn_mono h₁ (fun xs s₂ h₂ => ?_) no)
      unfold PhW at h₂
      refine wpOwn_bind (wpOwn_mono h₂ (fun ys s₃ h₃ => ?_) no)
      obtain ⟨xs⟩ := xs
      obtain ⟨ys⟩ := ys
      dsimp only at h₃
      split at h₃
      · rename_i x₁ x₂
        split at h₃
        · rename_i y₁ y₂
          show wpOwn (model prog w) A _ (forIn [(x₁, y₁), (x₂, y₂)] (none, ()) _ >>= _) _ _ s₃
          rw [List.forIn_cons]
          refine wpOwn_bind (wpOwn_bind ?_)
          show wpOwn (model prog w) A _ (eqBool x₁ y₁ >>= _) _ _ s₃
          refine wpOwn_bind (itemEqPh_ok h₃ fun s₄ h₄ => ?_)
          refine wpOwn_of_wpAny (wpAny_pure ?_)
          show wpOwn (model prog w) A _ (forIn [(x₂, y₂)] (none, ()) _) _ _ s₄
          rw [List.forIn_cons]
          refine wpOwn_bind ?_
          show wpOwn (model prog w) A _ (eqBool x₂ y₂ >>= _) _ _ s₄
          refine wpOwn_bind (itemEqPh_ok h₄ fun s₅ h₅ => ?_)
          refine wpOwn_of_wpAny (wpAny_pure ?_)
          show wpOwn (model prog w) A _ (forIn [] (none, ()) _) _ _ s₅
          rw [List.forIn_nil]
          refine wpOwn_of_wpAny (wpAny_pure ?_)
          exact h₅
        · exact h₃.elim
      · exact h₃.elim

/-- the text of an int -/
noncomputable def reprPh (a : Int) (els : Ph) : Ph := .hint fun n => match n with
  | 0 => els
  | _ => .need (.repr a) <| .andThen Nat PySem.fresh fun tk => .done (ret (.str (tS (digs a)) tk))
theorem reprPh_ok {a : Int} {u : Nat} (H : PhW prog w A (.builtin "int.__repr__" ⟨[.int a u], []⟩) (postC prog w A P) (postE P) (reprPh a (.done (DD (.builtin "int.__repr__" ⟨[.int a u], []⟩)))) s) :
    codeAny (model prog w) A (.builtin "int.__repr__" ⟨[.int a u], []⟩) P s := by
  unfold reprPh PhW at H
  obtain ⟨n, H⟩ := H
  cases n with
  | zero => exact done_ok H
  | succ n =>
    dsimp only at H
    unfold PhW at H
    obtain ⟨⟨hl, hn⟩, H⟩ := H
    refine bi_ok (B := Builtin.«int.__repr__») (entryFor_of_tree (by kernel_rfl)) ?_
    intro Γ p hc hΓ
    have z1 : wpOwn (model prog w) A (.builtin "int.__repr__" ⟨[.int a u], []⟩) (ret (.str (tS (digs a)) s.toks)) (postC prog w A P) (postE P) { s with toks := s.toks + 1 } := H Γ p hc hΓ
    have z : P (.ok (.ret (.str (tS (digs a)) s.toks))) { s with toks := s.toks + 1 } := z1 Γ p hc hΓ
    have e : tS (digs a) = Str.ofString (toString a) := rfl
    rw [e] at z
    have hle : (Str.ofString (toString a)).length ≤ sizeLine := by
      have : (Str.ofString (toString a)).length = (digs a).length := by
        show (Str.ofString (toString a)).cps.size = _
        rw [← Array.length_toList]; rfl
      rw [this]; exact hn
    have g := gives_int_repr a u hl prog w A P s ⟨hle, z⟩
    refine Sem.wp_mono _ Γ _ (fun fin p' s' h' => ?_) (fun _ _ _ h' => h') p s (g Γ p ?_)
    · cases fin <;> exact h'
    · have := hΓ.in
      rw [hc, Around.under_plainId (by decide +kernel)] at this
      exact this

noncomputable abbrev xAsStr := PySem.W.Fast.tw8364510232829398291
theorem xAsStr_eq : xAsStr = asStr? := PySem.W.Fast.te8364510232829398291.symm
/-- str(x) of an object -/
noncomputable def strObjPh (A : Around) (a : Addr) (els : Ph) : Ph := .hint fun n => match n with
  | 0 => els
  | _ => match Nat.blt (A.under (.builtin "str.__new__" ⟨[.type "str", .ref a], []⟩)).units 9900 with
    | false => .stop
    | true => .andThen (Option Value) (xCallSpecial (.ref a) "__str__" [] []) fun r => match r with
      | none => .stop
      | some v => .andThen (Option Str) (xAsStr v) fun o => match o.isNone with
        | true => .stop
        | false => .done (ret v)
theorem strObjPh_ok {a : Addr} (H : PhW prog w A (.builtin "str.__new__" ⟨[.type "str", .ref a], []⟩) (postC prog w A P) (postE P) (strObjPh A a (.done (DD (.builtin "str.__new__" ⟨[.type "str", .ref a], []⟩)))) s) :
    codeAny (model prog w) A (.builtin "str.__new__" ⟨[.type "str", .ref a], []⟩) P s := by
  unfold strObjPh PhW at H
  obtain ⟨n, H⟩ := H
  have no : ∀ e (s' : Shared), False → postE P e s' := fun _ _ z => z.elim
  cases n with
  | zero => exact done_ok H
  | succ n =>
    dsimp only at H
    cases hu : Nat.blt (A.under (.builtin "str.__new__" ⟨[.type "str", .ref a], []⟩)).units 9900 with
    | false => rw [hu] at H; exact H.elim
    | true =>
      rw [hu] at H
      dsimp only at H
      unfold PhW at H
      rw [xCallSpecial_eq] at H
      refine bi_ok (B := Builtin.«str.__new__») (entryFor_of_tree (by kernel_rfl)) ?_
      have no : ∀ e (s' : Shared), False → postE P e s' := fun _ _ z => z.elim
      show wpOwn (model prog w) A _ ((cRoomFor "str" [.ref a] >>= _) >>= _) _ _ s
      refine wpOwn_bind (wpOwn_bind (wpOwn_of_wpAny (wpAny_cRoomFor (Nat.le_of_ble_eq_true hu) ?_)))
      show wpOwn (model prog w) A _ (callSpecial? (.ref a) "__str__" >>= _) _ _ s
      refine wpOwn_bind (wpOwn_mono H (fun r s₂ h₂ => ?_) fun _ _ z => z.elim)
      cases r with
      | none => exact h₂.elim
      | some v =>
        dsimp only at h₂
        unfold PhW at h₂
        rw [xAsStr_eq] at h₂
        show wpOwn (model prog w) A _ (asStr? v >>= _) _ _ s₂
        refine wpOwn_bind (wpOwn_mono h₂ (fun o s₃ h₃ => ?_) fun _ _ z => z.elim)
        dsimp only at h₃
        cases ho : o.isNone with
        | true => rw [ho] at h₃; exact h₃.elim
        | false =>
          rw [ho] at h₃
          rw [if_neg (by first | exact Bool.false_ne_true | (rw [ho]; exact Bool.false_ne_true))]
          refine wpOwn_of_wpAny (wpAny_pure ?_)
          exact h₃

noncomputable def xDe (prog : Program) (A : Around) (c : Code) : Ph := match c with
  | .builtin id args => match args with
    | ⟨[a, b, .int i ti, .int code tc], []⟩ => match decide (id = "list.__eq__.loop") with
      | true => lsEqPh A ti tc a b i code (.done (DD (.builtin id ⟨[a, b, .int i ti, .int code tc], []⟩)))
      | false => xDt prog A (.builtin id ⟨[a, b, .int i ti, .int code tc], []⟩)
    | ⟨[.type T, .ref a], []⟩ => match decide (id = "str.__new__" ∧ T = "str") with
      | true => strObjPh A a (.done (DD (.builtin id ⟨[.type T, .ref a], []⟩)))
      | false => xDt prog A (.builtin id ⟨[.type T, .ref a], []⟩)
    | ⟨[.ref a, .ref b], []⟩ => match decide (id = "tuple.__eq__") with
      | true => tupEqPh (.ref a) (.ref b) (.done (DD (.builtin id ⟨[.ref a, .ref b], []⟩)))
      | false => xDt prog A (.builtin id ⟨[.ref a, .ref b], []⟩)
    | ⟨[.int a u], []⟩ => match decide (id = "int.__repr__") with
      | true => reprPh a (.done (DD (.builtin id ⟨[.int a u], []⟩)))
      | false => xDt prog A (.builtin id ⟨[.int a u], []⟩)
    | args => xDt prog A (.builtin id args)
  | c => xDt prog A c
theorem xDe_ok (prog : Program) (w : World) (A : Around) (c : Code) (P : Result → Shared → Prop) (s : Shared)
    (H : PhW prog w A c (postC prog w A P) (postE P) (xDe prog A c) s) : codeAny (model prog w) A c P s := by
  unfold xDe at H
  split at H
  · split at H
    · split at H
      · rename_i q; obtain rfl := of_decide_eq_true q; exact lsEqPh_ok H
      · exact xDt_ok _ _ _ _ _ _ H
    · split at H
      · rename_i q; obtain ⟨rfl, rfl⟩ := of_decide_eq_true q; exact strObjPh_ok H
      · exact xDt_ok _ _ _ _ _ _ H
    · split at H
      · rename_i q; obtain rfl := of_decide_eq_true q; exact tupEqPh_ok H
      · exact xDt_ok _ _ _ _ _ _ H
    · split at H
      · rename_i q; obtain rfl := of_decide_eq_true q; exact reprPh_ok H
      · exact xDt_ok _ _ _ _ _ _ H
    · exact xDt_ok _ _ _ _ _ _ H
  · exact xDt_ok _ _ _ _ _ _ H
end
end Mine

namespace Mine
section
variable {prog : Program} {w : World} {A : Around} {c : Code} {s : Shared}
theorem own_roomToWake {Q : Unit → Shared → Prop} {E : Value → Shared → Prop} (hd : (A.under c).depth < recursionLimit)
    (h : wpOwn (model prog w) A c currentRecursionLimit (fun l s' => l = recursionLimit ∧ Q () s') (fun _ _ => False) s) : wpOwn (model prog w) A c roomToWake Q E s := by
  intro Γ p hc hΓ
  have hΓ' : Γ.In (A.under c) := hc ▸ hΓ.in
  have hlt' : ¬ ((((Γ.code, p) :: Γ.below).map (·.1)).map (·.frames)).sum + ((((Γ.code, p) :: Γ.below).map (·.1)).filter Code.isCreation).length ≥ recursionLimit := by
    have hge := frameCount_ge ((Γ.code, p) :: Γ.below)
    rw [frameCount_cons] at hge
    have := hΓ'.2.1
    omega
  simp only [roomToWake, Sem.wp_bind']
  show Sem.wp _ Γ currentRecursionLimit _ _ p s
  refine Sem.wp_mono _ Γ _ (fun l p' s' h' => ?_) (fun _ _ _ h' => h'.elim) p s (h Γ p hc hΓ)
  obtain ⟨rfl, hq⟩ := h'
  show Sem.wp _ Γ (if nearTheLimitUnderAClaim (((Γ.code, p) :: Γ.below).map (·.1)) (((((Γ.code, p) :: Γ.below).map (·.1)).map (·.frames)).sum + ((((Γ.code, p) :: Γ.below).map (·.1)).filter Code.isCreation).length) recursionLimit = true then _ else _) _ _ p' s'
  rw [if_neg (by rw [not_nearTheLimit hΓ' hd]; exact Bool.false_ne_true)]
  show Sem.wp _ Γ (if ((((Γ.code, p) :: Γ.below).map (·.1)).map (·.frames)).sum + ((((Γ.code, p) :: Γ.below).map (·.1)).filter Code.isCreation).length ≥ recursionLimit then _ else _) _ _ p' s'
  rw [if_neg hlt']; exact hq

noncomputable abbrev xGenNumber := PySem.W.Fast.tw12255447999362386569
theorem xGenNumber_eq : xGenNumber = Builtin.Generator.genNumber := PySem.W.Fast.te12255447999362386569.symm
noncomputable abbrev xNewExc := @PySem.W.Fast.tw11364817496384490316
theorem xNewExc_eq : @xNewExc = @newExc := PySem.W.Fast.te11364817496384490316.symm
/-- a generator's next item -/
noncomputable def genPh (A : Around) (a : Addr) : Ph :=
  .andThen Nat (xGenNumber (.ref a)) fun n => .andThen GenStatus (genState n) fun b => match decide (b = .fresh ∨ b = .suspended) with
    | false => .stop
    | true => match Nat.blt (A.under (.builtin "generator.__next__" ⟨[.ref a], []⟩)).depth 1000 with
      | false => .stop
      | true => .andThen Nat xLimit fun l => match Nat.beq l 1000 with
        | false => .stop
        | true => .andThen GenResult (resume n (.send .none)) fun r => match r with
          | .yielded v => .done (ret v)
          | .returned v => match decide (v = .none) with
            | false => .stop
            | true => .andThen Value (newExc (.type "StopIteration") []) fun e => .done (raiseNew e >>= fun (_ : Unit) => unsupported "")
          | _ => .stop
variable {P : Result → Shared → Prop}
theorem genPh_ok {a : Addr} (H : PhW prog w A (.builtin "generator.__next__" ⟨[.ref a], []⟩) (postC prog w A P) (postE P) (genPh A a) s) : codeAny (model prog w) A (.builtin "generator.__next__" ⟨[.ref a], []⟩) P s := by
  have no : ∀ e (s' : Shared), False → postE P e s' := fun _ _ z => z.elim
  unfold genPh PhW at H
  rw [xGenNumber_eq] at H
  refine bi_ok (B := Builtin.«generator.__next__») (entryFor_of_tree (by kernel_rfl)) ?_
  show wpOwn (model prog w) A _ (holding [.none] (Builtin.Generator.genNumber (.ref a)) >>= _) _ _ s
  refine wpOwn_bind (fun Γ p hc hΓ => ?_)
  rw [Sem.wp_holding]
  refine Sem.wp_mono _ Γ _ (fun n p' s₁ h₁ => ?_) (fun _ _ _ z => z.elim) p s (H Γ p hc hΓ)
  unfold PhW at h₁
  refine wpOwn_bind (wpOwn_mono h₁ (fun b s₂ h₂ => ?_) no)
  dsimp only at h₂
  by_cases hb : b = .fresh ∨ b = .suspended
  · rw [decide_eq_true hb] at h₂
    dsimp only at h₂
    cases hd : Nat.blt (A.under (.builtin "generator.__next__" ⟨[.ref a], []⟩)).depth 1000 with
    | false => rw [hd] at h₂; exact h₂.elim
    | true =>
      rw [hd] at h₂
      dsimp only at h₂
      unfold PhW at h₂
      rw [xLimit_eq] at h₂
      have go : wpOwn (model prog w) A (.builtin "generator.__next__" ⟨[.ref a], []⟩) (roomToWake) (fun _ s' => PhW prog w A (.builtin "generator.__next__" ⟨[.ref a], []⟩) (postC prog w A P) (postE P) (.andThen GenResult (resume n (.send .none)) fun r => match r with
          | .yielded v => .done (ret v)
          | .returned v => match decide (v = .none) with
            | false => .stop
            | true => .andThen Value (newExc (.type "StopIteration") []) fun e => .done (raiseNew e >>= fun (_ : Unit) => unsupported "")
          | _ => .stop) s') (postE P) s₂ := by
        refine own_roomToWake (Nat.le_of_ble_eq_true hd) (wpOwn_mono h₂ (fun l s₃ h₃ => ?_) fun _ _ z => z)
        dsimp only at h₃
        cases hl : Nat.beq l 1000 with
        | false => rw [hl] at h₃; exact h₃.elim
        | true => rw [hl] at h₃; exact ⟨Nat.eq_of_beq_eq_true hl, h₃⟩
      rcases hb with rfl | rfl
      all_goals
        refine wpOwn_bind (wpOwn_mono go (fun _ s₄ h₄ => ?_) fun _ _ z => z)
        unfold PhW at h₄
        refine wpOwn_bind (wpOwn_mono h₄ (fun r s₅ h₅ => ?_) no)
        cases r with
        | yielded v => exact h₅
        | returned v =>
          dsimp only at h₅ ⊢
          by_cases hv : v = .none
          · subst hv
            rw [decide_eq_true rfl] at h₅
            dsimp only at h₅
            unfold PhW at h₅
            rw [if_pos (by decide)]
            refine wpOwn_bind (wpOwn_mono h₅ (fun e s₆ h₆ => ?_) no)
            unfold PhW at h₆
            intro Γ p hc hΓ
            have z := h₆ Γ p hc hΓ
            rw [Sem.wp_bind'] at z ⊢
            refine Sem.wp_mono _ Γ _ (fun _ p' s' h' => ?_) (fun _ _ _ h' => h') p s₆ z
            exact False.elim (by simpa [unsupported] using h')
          · rw [decide_eq_false hv] at h₅; exact h₅.elim
        | _ => exact h₅.elim
  · rw [decide_eq_false hb] at h₂; exact h₂.elim
noncomputable def xDg (prog : Program) (A : Around) (c : Code) : Ph := match c with
  | .builtin id args => match args with
    | ⟨[.ref a], []⟩ => match decide (id = "generator.__next__") with
      | true => genPh A a
      | false => xDe prog A (.builtin id ⟨[.ref a], []⟩)
    | args => xDe prog A (.builtin id args)
  | c => xDe prog A c
theorem xDg_ok (prog : Program) (w : World) (A : Around) (c : Code) (P : Result → Shared → Prop) (s : Shared)
    (H : PhW prog w A c (postC prog w A P) (postE P) (xDg prog A c) s) : codeAny (model prog w) A c P s := by
  unfold xDg at H
  split at H
  · split at H
    · split at H
      · rename_i q; obtain rfl := of_decide_eq_true q; exact genPh_ok H
      · exact xDe_ok _ _ _ _ _ _ H
    · exact xDe_ok _ _ _ _ _ _ H
  · exact xDe_ok _ _ _ _ _ _ H
end
end Mine

namespace Mine
section
variable {prog : Program} {w : World} {A : Around} {c : Code} {s : Shared} {P : Result → Shared → Prop}
noncomputable abbrev xReadyFrames := PySem.W.Fast.tw9112722382718976056
noncomputable abbrev xSetField := PySem.W.Fast.tw17858455048448223758
noncomputable abbrev xSetFlight := PySem.W.Fast.tw5670386056902412789
noncomputable abbrev xHandleBy := PySem.W.Fast.tw14206642085496868694
theorem xReadyFrames_eq : xReadyFrames = readyFrames := PySem.W.Fast.te9112722382718976056.symm
theorem xSetField_eq : xSetField = setField := PySem.W.Fast.te17858455048448223758.symm
theorem xSetFlight_eq : xSetFlight = setFlight := PySem.W.Fast.te5670386056902412789.symm
theorem xHandleBy_eq : xHandleBy = handleBy := PySem.W.Fast.te14206642085496868694.symm

theorem own_onRaise {α : Type} {m : Sem α} {h : Value → Sem Unit} {Q : α → Shared → Prop} {E : Value → Shared → Prop}
    (H : wpOwn (model prog w) A c m Q (fun e s' => wpOwn (model prog w) A c (h e) (fun _ s'' => E e s'') E s') s) : wpOwn (model prog w) A c (m.onRaise h) Q E s := fun Γ p hc hΓ => by
  rw [Sem.wp_onRaise]
  exact Sem.wp_mono _ Γ m (fun _ _ _ z => z) (fun e p' s' h' => h' Γ p' hc hΓ) p s (H Γ p hc hΓ)
theorem own_attempt {α : Type} {m : Sem α} {Q : Except Value α → Shared → Prop} {E : Value → Shared → Prop}
    (H : wpOwn (model prog w) A c m (fun a s' => Q (.ok a) s') (fun e s' => Q (.error e) s') s) : wpOwn (model prog w) A c m.attempt Q E s := fun Γ p hc hΓ => by
  rw [Sem.wp_attempt]
  exact H Γ p hc hΓ

noncomputable def dec6 (l : List (Code × Pos)) (i : Nat) : Value := match l with
  | [] => .none
  | (c, _) :: _ => match c with
    | .builtin _ as => as.pos.getD i .none
    | _ => .none
noncomputable def tbObj (head : Value) (f : Addr) (l : List (Code × Pos)) : Obj :=
  { cls := .type "traceback", dict := none, data := .fields #[head, .ref f, .none, rawInt f, .none, dec6 l 0, dec6 l 1, dec6 l 2, dec6 l 3, dec6 l 4, dec6 l 5] }
theorem tbObj_of (head : Value) (f : Addr) {pl : List Value} (h : IsPlace pl) : ∃ l, ({ cls := .type "traceback", dict := none, data := .fields ([head, .ref f, .none, rawInt f, .none] ++ (if pl.isEmpty then List.replicate 6 Value.none else pl)).toArray } : Obj) = tbObj head f l := by
  refine ⟨[(.builtin "" ⟨if pl.isEmpty then List.replicate 6 Value.none else pl, []⟩, default)], ?_⟩
  rcases h with rfl | ⟨a, b, c, d, c9, b10, _, rfl⟩ <;> rfl

/-- what is noted of an exception that leaves a frame -/
noncomputable def notePh (A : Around) (e : Value) (env : Env) (k : Ph) : Ph := match A.frames with
  | none => .stop
  | some outer => match env.frame with
    | none => .stop
    | some f => .andThen Value (xField e 1) fun head =>
      let go : Ph := .andThen Unit (xReadyFrames (env :: outer)) fun _ => .any fun l => .andThen Addr (PySem.alloc (tbObj head f l)) fun a => .andThen Unit (xSetField e 1 (.ref a)) fun _ => k
      match head with
      | .none => go
      | .ref h => .andThen Value (xField (.ref h) 3) fun x => match x with
        | .none => .andThen Unit (xSetField (.ref h) 3 .none) fun _ => go
        | _ => .stop
      | _ => .stop
theorem notePh_ok {body : List Stmt} {env : Env} {e : Value} {k : Ph} {Q : Fin → Shared → Prop} {E E' : Value → Shared → Prop}
    (H : PhW prog w A (.func body env) Q E (notePh A e env k) s) :
    wpOwn (model prog w) A (.func body env) (noteFrame e env) (fun _ s' => PhW prog w A (.func body env) Q E k s') E' s := by
  unfold notePh at H
  have no : ∀ e (s' : Shared), False → E' e s' := fun _ _ z => z.elim
  cases hA : A.frames with
  | none => rw [hA] at H; exact H.elim
  | some outer =>
    rw [hA] at H
    dsimp only at H
    cases hf : env.frame with
    | none => rw [hf] at H; exact H.elim
    | some f =>
      rw [hf] at H
      dsimp only at H
      unfold PhW at H
      rw [xField_eq] at H
      have hfr : (A.under (.func body env)).frames = some (env :: outer) := by
        show pushEnvs (Code.func body env).envs A.frames = _
        rw [hA]; rfl
      have go : ∀ (hn : Bool) (head : Value) (s₁ : Shared), PhW prog w A (.func body env) Q E (.andThen Unit (xReadyFrames (env :: outer)) fun _ => .any fun l => .andThen Addr (PySem.alloc (tbObj head f l)) fun a => .andThen Unit (xSetField e 1 (.ref a)) fun _ => k) s₁ →
          wpOwn (model prog w) A (.func body env) (do setField e 1 (← EntryCells.newEntry head (← frameOf env) .none (rawInt f) .none (← entryPlaceOf f hn))) (fun _ s' => PhW prog w A (.func body env) Q E k s') E' s₁ := by
        intro hn head s₁ h₁
        unfold PhW at h₁
        rw [xReadyFrames_eq] at h₁
        refine wpOwn_bind ?_
        show wpOwn _ _ _ (PySem.frameOf env) _ _ _
        unfold PySem.frameOf
        refine wpOwn_bind (wpOwn_of_wpAny (wpAny_frameEnvs hfr ?_))
        have hdw : ((env :: outer).dropWhile fun x => x.frame != env.frame) = env :: outer := by simp [List.dropWhile]
        rw [hdw]
        unfold frameObject
        refine wpOwn_bind (wpOwn_bind (wpOwn_mono h₁ (fun _ s₂ h₂ => ?_) no))
        refine wpOwn_of_wpAny (wpAny_pure ?_)
        rw [hf]
        refine wpOwn_of_wpAny (wpAny_pure ?_)
        refine wpOwn_bind (wpOwn_of_wpAny (wpAny_entryPlaceOf fun pl hpl => ?_))
        unfold EntryCells.newEntry newFields
        obtain ⟨l, hl⟩ := tbObj_of head f hpl
        unfold PhW at h₂
        have h₃ := h₂ l
        unfold PhW at h₃
        refine wpOwn_bind (fun Γ p hc hΓ => ?_)
        refine wpAny_newObj_type (M := model prog w) (A := A.under (.func body env)) (Q := fun a s' => wpOwn (model prog w) A (.func body env) (setField e 1 a) (fun _ s' => PhW prog w A (.func body env) Q E k s') E' s') (E := E') ?_ (hpl.sizeOk5 _ _ _ _ _) Γ p (hc ▸ hΓ.in)
        rw [hl]
        have h₄ : PhW prog w A (.func body env) Q E (.andThen Unit (xSetField e 1 (.ref s₂.heap.objs.size)) fun _ => k) { s₂ with heap := s₂.heap.push (tbObj head f l) } := h₃ Γ p hc hΓ
        unfold PhW at h₄
        rw [xSetField_eq] at h₄
        exact wpOwn_mono h₄ (fun _ _ z => z) no
      unfold noteFrame
      rw [hf]
      dsimp only
      refine wpOwn_bind (wpOwn_mono H (fun head s₁ h₁ => ?_) no)
      dsimp only at h₁
      cases head with
      | none => exact go _ _ _ h₁
      | ref h =>
        dsimp only at h₁
        unfold PhW at h₁
        rw [if_pos (by rfl)]
        refine wpOwn_bind (wpOwn_mono h₁ (fun x s₂ h₂ => ?_) no)
        cases x with
        | none =>
          dsimp only at h₂
          unfold PhW at h₂
          rw [xSetField_eq] at h₂
          rw [if_neg (by simp [rawInt])]
          refine wpOwn_bind (wpOwn_mono h₂ (fun _ s₃ h₃ => ?_) no)
          exact go _ _ _ h₃
        | _ => exact h₂.elim
      | _ => exact h₁.elim
/-- a body that ends in an exception of its own -/
noncomputable def raisePh (A : Around) (body : List Stmt) (env : Env) : Ph :=
  .tryT Flow (xExecs body env) (fun f => .done (retF f)) fun e => notePh A e env (.andThen Unit (xSetFlight e none) fun _ => .throw e)
theorem raisePh_ok {body : List Stmt} {env : Env} (H : PhW prog w A (.func body env) (postC prog w A P) (postE P) (raisePh A body env) s) : codeAny (model prog w) A (.func body env) P s := by
  refine y_code _ _ _ _ _ _ ?_
  have e3 : denote table (.func body env) = (point >>= fun _ => ((execs body env).onRaise (leaving env)) >>= retF) := by rfl
  rw [e3]
  unfold raisePh PhW at H
  rw [xExecs_eq] at H
  refine wpOwn_bind (wpOwn_of_wpAny (wpAny_point ?_))
  refine wpOwn_bind (own_onRaise (wpOwn_mono H (fun f s₁ h₁ => ?_) (fun e s₁ h₁ => ?_)))
  · unfold PhW at h₁
    exact h₁
  · unfold leaving
    refine wpOwn_bind (wpOwn_mono (notePh_ok (E' := postE P) h₁) (fun _ s₂ h₂ => ?_) fun _ _ z => z)
    unfold PhW at h₂
    rw [xSetFlight_eq] at h₂
    refine wpOwn_mono h₂ (fun _ s₃ h₃ => ?_) fun _ _ z => z.elim
    unfold PhW at h₃
    exact h₃
/-- a body that opens with a try whose suite raises and whose clause gives the value back -/
noncomputable def catchPh (A : Around) (st : List Stmt) (env : Env) : Ph := match st with
  | s :: rest => match s with
    | .Try body hs orelse final _ => match hs with
      | h :: hs => match orelse with
        | [] => match final with
          | [] => .tryT Flow (xExecs body env) (fun _ => .stop) fun e => notePh A e env (.andThen Unit (xSetFlight e none) fun _ => .andThen Flow (xHandleBy e env (h :: hs)) fun f => match f with
            | .ret v => .done (ret v)
            | _ => .stop)
          | _ :: _ => .stop
        | _ :: _ => .stop
      | [] => .stop
    | _ => .stop
  | _ => .stop
theorem catchPh_ok {body : List Stmt} {env : Env} (H : PhW prog w A (.func body env) (postC prog w A P) (postE P) (catchPh A body env) s) : codeAny (model prog w) A (.func body env) P s := by
  have no : ∀ e (s' : Shared), False → postE P e s' := fun _ _ z => z.elim
  unfold catchPh at H
  split at H
  · rename_i st₀ rest
    split at H
    · rename_i body hs orelse final pos
      split at H
      · rename_i h hs
        split at H
        · split at H
          · refine y_code _ _ _ _ _ _ ?_
            have e3 : denote table (.func (.Try body (h :: hs) [] [] pos :: rest) env) = (point >>= fun _ => (((standAt pos >>= fun _ => (do
                match ← (execs body env).attempt with
                | .ok .next => execs [] env
                | .ok f => pure f
                | .error e =>
                  noteFrame e env
                  setFlight e none
                  handleBy e env (h :: hs))) >>= fun f => match f with
              | .next => execs rest env
              | f => pure f).onRaise (leaving env)) >>= retF) := by
              show (point >>= fun _ => ((execs (.Try body (h :: hs) [] [] pos :: rest) env).onRaise (leaving env)) >>= _) = _
              rw [execs_cons]
              rfl
            rw [e3]
            unfold PhW at H
            rw [xExecs_eq] at H
            refine wpOwn_bind (wpOwn_of_wpAny (wpAny_point ?_))
            refine wpOwn_bind (own_onRaise (wpOwn_bind (wpOwn_bind (wpOwn_of_wpAny (wpAny_standAt (wpOwn_bind (own_attempt (wpOwn_mono H (fun f s₁ h₁ => h₁.elim) (fun e s₁ h₁ => ?_)))))))))
            refine wpOwn_bind (wpOwn_mono (notePh_ok h₁) (fun _ s₂ h₂ => ?_) fun _ _ z => z)
            unfold PhW at h₂
            rw [xSetFlight_eq] at h₂
            refine wpOwn_bind (wpOwn_mono h₂ (fun _ s₃ h₃ => ?_) fun _ _ z => z.elim)
            unfold PhW at h₃
            rw [xHandleBy_eq] at h₃
            refine wpOwn_mono h₃ (fun f s₄ h₄ => ?_) fun _ _ z => z.elim
            cases f with
            | ret v => exact wpOwn_of_wpAny (wpAny_pure h₄)
            | _ => exact h₄.elim
          · exact H.elim
        · exact H.elim
      · exact H.elim
    · exact H.elim
  · exact H.elim
end
end Mine

namespace Mine
section
variable {prog : Program} {w : World} {A : Around} {c : Code} {s : Shared} {P : Result → Shared → Prop} {Q : Fin → Shared → Prop} {E : Value → Shared → Prop}
noncomputable abbrev xFirstIter := PySem.W.Fast.tw18100340678103251363
noncomputable abbrev xGenIterable := PySem.W.Fast.tw11392484809677674534
noncomputable abbrev xClosureFor := PySem.W.Fast.tw14069538253670106520
noncomputable abbrev xGenexprCode := PySem.W.Fast.tw9492743126541576920
noncomputable abbrev xBuiltinsFor := PySem.W.Fast.tw6600643334278800223
noncomputable abbrev xNewGenerator := PySem.W.Fast.tw2426001476595277715
noncomputable abbrev xCallWith := PySem.W.Fast.tw8289420714989923916
noncomputable abbrev xCalleeOf := PySem.W.Fast.tw11328156115524847652
noncomputable abbrev xMethodCallPos := PySem.W.Fast.tw6137100228056946695
noncomputable abbrev xAttributeBase := PySem.W.Fast.tw15487144857313948548
noncomputable abbrev xPyNext := PySem.W.Fast.tw9404975358583537561
noncomputable abbrev xAssign := PySem.W.Fast.tw17772580674575903948
noncomputable abbrev xOwnedTuple := PySem.W.Fast.tw1578499551869305889
noncomputable abbrev xTruthy := PySem.W.Fast.tw15245631507167962100
theorem xFirstIter_eq : xFirstIter = firstIter := PySem.W.Fast.te18100340678103251363.symm
theorem xGenIterable_eq : xGenIterable = genexprIterable := PySem.W.Fast.te11392484809677674534.symm
theorem xClosureFor_eq : xClosureFor = closureFor := PySem.W.Fast.te14069538253670106520.symm
theorem xGenexprCode_eq : xGenexprCode = genexprCode := PySem.W.Fast.te9492743126541576920.symm
theorem xBuiltinsFor_eq : xBuiltinsFor = builtinsFor := PySem.W.Fast.te6600643334278800223.symm
theorem xNewGenerator_eq : xNewGenerator = newGenerator := PySem.W.Fast.te2426001476595277715.symm
theorem xCallWith_eq : xCallWith = callWith := PySem.W.Fast.te8289420714989923916.symm
theorem xCalleeOf_eq : xCalleeOf = calleeOf := PySem.W.Fast.te11328156115524847652.symm
theorem xMethodCallPos_eq : xMethodCallPos = methodCallPos := PySem.W.Fast.te6137100228056946695.symm
theorem xAttributeBase_eq : xAttributeBase = attributeBase := PySem.W.Fast.te15487144857313948548.symm
theorem xPyNext_eq : xPyNext = pyNext := PySem.W.Fast.te9404975358583537561.symm
theorem xAssign_eq : xAssign = assign := PySem.W.Fast.te17772580674575903948.symm
theorem xOwnedTuple_eq : xOwnedTuple = letOwnedTupleGo := PySem.W.Fast.te1578499551869305889.symm
theorem xTruthy_eq : xTruthy = truthy := PySem.W.Fast.te15245631507167962100.symm

theorem own_holding {α : Type} {vs : List Value} {m : Sem α} {Q : α → Shared → Prop} {E : Value → Shared → Prop} (H : wpOwn (model prog w) A c m Q E s) : wpOwn (model prog w) A c (holding vs m) Q E s := fun Γ p hc hΓ => by
  rw [Sem.wp_holding]; exact H Γ p hc hΓ

/-- the making of a generator; k is what is done with it -/
noncomputable def genexprPh (A : Around) (c : Code) (elt : Expr) (gens : List Comprehension) (scope : Scope) (pos : Pos) (env : Env) (k : Value → Ph) : Ph :=
  match firstAsync gens with
  | true => .stop
  | false => match scope.isCoroutine with
    | true => .stop
    | false => match Nat.blt (A.under c).depth 1000 with
      | false => .stop
      | true => .andThen Value (xFirstIter gens env) fun x => .andThen Value (xGenIterable false gens env x) fun x => .andThen Value (xPyIter x) fun it => .andThen Nat xLimit fun l => match Nat.beq l 1000 with
        | false => .stop
        | true => .andThen (List (Str × Addr)) (xClosureFor scope env) fun cl => .andThen Value (xGenexprCode env pos (env.qual ++ "<genexpr>") scope) fun gc => .andThen Addr (xBuiltinsFor env.globals env.builtins) fun bi =>
          .andThen Env (xNewEnv scope env.globals cl [(".0", it)] (env.qual ++ "<genexpr>.") none gc none bi) fun cenv => .andThen Value (xNewGenerator (.compStart (.GeneratorExp elt gens scope pos) 0 it .none cenv) "<genexpr>" (env.qual ++ "<genexpr>")) k
theorem genexprPh_ok {elt : Expr} {gens : List Comprehension} {scope : Scope} {pos : Pos} {env : Env} {k : Value → Ph} {E' : Value → Shared → Prop} (H : PhW prog w A c Q E (genexprPh A c elt gens scope pos env k) s) :
    wpOwn (model prog w) A c (eval (.GeneratorExp elt gens scope pos) env) (fun v s' => PhW prog w A c Q E (k v) s') E' s := by
  have no : ∀ e (s' : Shared), False → E' e s' := fun _ _ z => z.elim
  unfold genexprPh at H
  cases ha : firstAsync gens with
  | true => rw [ha] at H; exact H.elim
  | false =>
    rw [ha] at H
    dsimp only at H
    cases hco : scope.isCoroutine with
    | true => rw [hco] at H; exact H.elim
    | false =>
      rw [hco] at H
      dsimp only at H
      cases hd : Nat.blt (A.under c).depth 1000 with
      | false => rw [hd] at H; exact H.elim
      | true =>
        rw [hd] at H
        dsimp only at H
        unfold PhW at H
        rw [xFirstIter_eq] at H
        have e : eval (.GeneratorExp elt gens scope pos) env = (do
          let x ← firstIter gens env
          standAt (firstIterPos gens pos)
          let x ← genexprIterable (firstAsync gens) gens env x
          let it ← holding [x] (if firstAsync gens then asyncIter x else pyIter x)
          enterFrame
          let cl ← closureFor scope env
          let gc ← genexprCode env pos (env.qual ++ "<genexpr>") scope
          let bi ← builtinsFor env.globals env.builtins
          let cenv ← newFunctionEnv scope env.globals cl [(".0", it)] (env.qual ++ "<genexpr>.") none gc none bi
          (if scope.isCoroutine then newAsyncGenerator else newGenerator) (.compStart (.GeneratorExp elt gens scope pos) 0 it .none cenv) "<genexpr>" (env.qual ++ "<genexpr>")) := by rfl
        rw [e, ha, hco]
        refine wpOwn_bind (wpOwn_mono H (fun x s₁ h₁ => ?_) no)
        unfold PhW at h₁
        rw [xGenIterable_eq] at h₁
        refine wpOwn_bind (wpOwn_of_wpAny (wpAny_standAt ?_))
        refine wpOwn_bind (wpOwn_mono h₁ (fun x s₂ h₂ => ?_) no)
        unfold PhW at h₂
        rw [xPyIter_eq] at h₂
        refine wpOwn_bind (own_holding ?_)
        rw [if_neg Bool.false_ne_true]
        refine wpOwn_mono h₂ (fun it s₃ h₃ => ?_) no
        unfold PhW at h₃
        rw [xLimit_eq] at h₃
        refine wpOwn_bind (own_enterFrame (Nat.le_of_ble_eq_true hd) (wpOwn_mono h₃ (fun l s₄ h₄ => ?_) fun _ _ z => z))
        dsimp only at h₄
        cases hl : Nat.beq l 1000 with
        | false => rw [hl] at h₄; exact h₄.elim
        | true =>
          refine ⟨Nat.eq_of_beq_eq_true hl, ?_⟩
          rw [hl] at h₄
          dsimp only at h₄
          unfold PhW at h₄
          rw [xClosureFor_eq] at h₄
          refine wpOwn_bind (wpOwn_mono h₄ (fun cl s₅ h₅ => ?_) no)
          unfold PhW at h₅
          rw [xGenexprCode_eq] at h₅
          refine wpOwn_bind (wpOwn_mono h₅ (fun gc s₆ h₆ => ?_) no)
          unfold PhW at h₆
          rw [xBuiltinsFor_eq] at h₆
          refine wpOwn_bind (wpOwn_mono h₆ (fun bi s₇ h₇ => ?_) no)
          unfold PhW at h₇
          rw [xNewEnv_eq] at h₇
          refine wpOwn_bind (wpOwn_mono h₇ (fun cenv s₈ h₈ => ?_) no)
          unfold PhW at h₈
          rw [xNewGenerator_eq] at h₈
          rw [if_neg Bool.false_ne_true]
          exact wpOwn_mono h₈ (fun _ _ z => z) no

theorem callWith_split {M : Model} {Γ : Ctx} {cp : Pos} {f : Value} {first : List Value} {x : Sem Value} {rest : List (Bool × Sem Value)} {Q : Value → Pos → Shared → Prop} {E : Value → Pos → Shared → Prop} {p : Pos} {s : Shared}
    (H : Sem.wp M Γ x (fun v p' s' => Sem.wp M Γ (callWith cp f first ((false, pure v) :: rest) []) Q E p' s') E p s) : Sem.wp M Γ (callWith cp f first ((false, x) :: rest) []) Q E p s := by
  unfold callWith evalArgs spliced at H ⊢
  simp only [Sem.wp_bind', Sem.wp_holding] at H ⊢
  exact H
theorem own_callWith {cp : Pos} {f : Value} {first : List Value} {x : Sem Value} {rest : List (Bool × Sem Value)} {Q : Value → Shared → Prop} {E : Value → Shared → Prop}
    (H : wpOwn (model prog w) A c x (fun v s' => wpOwn (model prog w) A c (callWith cp f first ((false, pure v) :: rest) []) Q E s') E s) : wpOwn (model prog w) A c (callWith cp f first ((false, x) :: rest) []) Q E s := fun Γ p hc hΓ =>
  callWith_split (Sem.wp_mono _ Γ x (fun _ p' _ h' => h' Γ p' hc hΓ) (fun _ _ _ z => z) p s (H Γ p hc hΓ))

theorem own_execs1 {st : Stmt} {env : Env} {Q : Flow → Shared → Prop} {E : Value → Shared → Prop} (H : wpOwn (model prog w) A c (execs [st] env) Q E s) : wpOwn (model prog w) A c (exec st env) Q E s := fun Γ p hc hΓ => by
  have z := H Γ p hc hΓ
  rw [execs_cons, Sem.wp_bind'] at z
  refine Sem.wp_mono _ Γ _ (fun f p' s' h' => ?_) (fun _ _ _ h' => h') p s z
  cases f <;> exact h'
/-- the body return f(<generator>) or return o.m(<generator>) -/
noncomputable def genBodyPh (A : Around) (body : List Stmt) (env : Env) : Ph := match body with
  | [.Return (some e) rp] => match e with
    | .Call fn args [] pos => match args with
      | a :: more => match a with
        | .GeneratorExp elt gens scope gp => match fn with
          | .Attribute o attr apos => match more with
            | [] => .andThen Value (xAttributeBase o attr env (xEval o env)) fun ov => .andThen (Value × List Value) (xCalleeOf true o env ov attr) fun q => .andThen Pos (xMethodCallPos true o env apos pos) fun cp =>
                genexprPh A (.func [.Return (some (.Call fn args [] pos)) rp] env) elt gens scope gp env fun v => .andThen Value (xCallWith cp q.1 q.2 [(false, pure v)] []) fun r => .done (ret r)
            | _ :: _ => .stop
          | .Name n np => .andThen Value (xEval (.Name n np) env) fun f =>
                genexprPh A (.func [.Return (some (.Call fn args [] pos)) rp] env) elt gens scope gp env fun v => .andThen Value (xCallWith pos f [] ((false, pure v) :: xBackTo pos (xStarEach more env)) []) fun r => .done (ret r)
          | _ => .stop
        | _ => .stop
      | [] => .stop
    | _ => .stop
  | _ => .stop
theorem genBodyPh_ok {body : List Stmt} {env : Env} (H : PhW prog w A (.func body env) (postC prog w A P) (postE P) (genBodyPh A body env) s) : codeAny (model prog w) A (.func body env) P s := by
  have no : ∀ (E : Value → Shared → Prop) e (s' : Shared), False → E e s' := fun _ _ _ z => z.elim
  unfold genBodyPh at H
  split at H
  · rename_i e rp
    split at H
    · rename_i fn args pos
      split at H
      · rename_i a more
        split at H
        · rename_i elt gens scope gp
          have e3 : ∀ fn : Expr, denote table (.func [.Return (some (.Call fn (.GeneratorExp elt gens scope gp :: more) [] pos)) rp] env) = (point >>= fun _ => (((standAt rp >>= fun _ => eval (.Call fn (.GeneratorExp elt gens scope gp :: more) [] pos) env >>= fun v => pure (Flow.ret v)) >>= fun f => match f with
            | .next => execs [] env
            | f => pure f).onRaise (leaving env)) >>= retF) := by
            intro fn
            show (point >>= fun _ => ((execs [.Return (some (.Call fn (.GeneratorExp elt gens scope gp :: more) [] pos)) rp] env).onRaise (leaving env)) >>= _) = _
            rw [execs_cons]
            rfl
          split at H
          · rename_i o attr apos
            split at H
            · refine y_code _ _ _ _ _ _ ?_
              rw [e3]
              refine wpOwn_bind (wpOwn_of_wpAny (wpAny_point ?_))
              refine wpOwn_bind (own_onRaise (wpOwn_bind (wpOwn_bind (wpOwn_of_wpAny (wpAny_standAt (wpOwn_bind ?_))))))
              unfold PhW at H
              rw [xAttributeBase_eq, xEval_eq] at H
              have e1 : eval (.Call (.Attribute o attr apos) [.GeneratorExp elt gens scope gp] [] pos) env = (do
                let ov ← attributeBase o attr env (eval o env)
                standAt apos.atName
                let q ← holding [ov] (calleeOf true o env ov attr)
                let cp ← methodCallPos true o env apos pos
                callWith cp q.1 q.2 [(false, eval (.GeneratorExp elt gens scope gp) env)] []) := by rfl
              rw [e1]
              refine wpOwn_bind (wpOwn_mono H (fun ov s₁ h₁ => ?_) (no _))
              unfold PhW at h₁
              rw [xCalleeOf_eq] at h₁
              refine wpOwn_bind (wpOwn_of_wpAny (wpAny_standAt ?_))
              refine wpOwn_bind (own_holding (wpOwn_mono h₁ (fun q s₂ h₂ => ?_) (no _)))
              unfold PhW at h₂
              rw [xMethodCallPos_eq] at h₂
              refine wpOwn_bind (wpOwn_mono h₂ (fun cp s₃ h₃ => ?_) (no _))
              refine own_callWith (wpOwn_mono (genexprPh_ok (E' := fun _ _ => False) h₃) (fun v s₄ h₄ => ?_) (no _))
              unfold PhW at h₄
              rw [xCallWith_eq] at h₄
              refine wpOwn_mono h₄ (fun r s₅ h₅ => ?_) (no _)
              refine wpOwn_of_wpAny (wpAny_pure (wpOwn_of_wpAny (wpAny_pure ?_)))
              unfold PhW at h₅
              exact h₅
            · exact H.elim
          · rename_i n np
            refine y_code _ _ _ _ _ _ ?_
            rw [e3]
            refine wpOwn_bind (wpOwn_of_wpAny (wpAny_point ?_))
            refine wpOwn_bind (own_onRaise (wpOwn_bind (wpOwn_bind (wpOwn_of_wpAny (wpAny_standAt (wpOwn_bind ?_))))))
            unfold PhW at H
            rw [xEval_eq] at H
            have e1 : eval (.Call (.Name n np) (.GeneratorExp elt gens scope gp :: more) [] pos) env = (do
              let f ← eval (.Name n np) env
              callWith pos f [] ((false, eval (.GeneratorExp elt gens scope gp) env) :: backTo pos (starEach more env)) []) := by rfl
            rw [e1]
            refine wpOwn_bind (wpOwn_mono H (fun f s₁ h₁ => ?_) (no _))
            refine own_callWith (wpOwn_mono (genexprPh_ok (E' := fun _ _ => False) h₁) (fun v s₄ h₄ => ?_) (no _))
            unfold PhW at h₄
            rw [xCallWith_eq, xBackTo_eq, xStarEach_eq] at h₄
            refine wpOwn_mono h₄ (fun r s₅ h₅ => ?_) (no _)
            refine wpOwn_of_wpAny (wpAny_pure (wpOwn_of_wpAny (wpAny_pure ?_)))
            unfold PhW at h₅
            exact h₅
          · exact H.elim
        · exact H.elim
      · exact H.elim
    · exact H.elim
  · exact H.elim
noncomputable abbrev xMarkedIn := PySem.W.Fast.tw10513115210890433525
theorem xMarkedIn_eq : xMarkedIn = markedBehindIn := PySem.W.Fast.te10513115210890433525.symm
noncomputable def listy : Expr → Bool
  | .ListComp .. => true
  | .Name .. => true
  | _ => false
/-- a statement by itself; an if whose test is a != b, of two objects, apart -/
noncomputable def stPh (A : Around) (c : Code) (st : Stmt) (env : Env) (k : Flow → Ph) : Ph := match st with
  | .If test body orelse pos => match test with
    | .Compare left ops rights cp => match ops with
      | [.NotEq] => match rights with
        | [right] => match listy left with
          | false => .andThen Flow (xExecs [.If test body orelse pos] env) k
          | true => match Nat.blt (A.under c).units 9900 with
            | false => .stop
            | true => .andThen Value (xEval left env) fun a => .andThen Value (xMarkedIn .NotEq right (xEval right env)) fun b => match a with
              | .ref x => match b with
                | .ref y => .andThen Value (xTypeOf (.ref x)) fun ta => .andThen Value (xTypeOf (.ref y)) fun tb => match decide (ta = tb) with
                  | false => .stop
                  | true => .andThen (Option Value) (xTryCompare (.ref x) "__ne__" (.ref y)) fun r => match r with
                    | none => .stop
                    | some v => .andThen Bool (xTruthy v) fun t => match t with
                      | true => .andThen Flow (xExecs body env) k
                      | false => .andThen Flow (xExecs orelse env) k
                | _ => .stop
              | _ => .stop
        | _ => .andThen Flow (xExecs [.If test body orelse pos] env) k
      | _ => .andThen Flow (xExecs [.If test body orelse pos] env) k
    | _ => .andThen Flow (xExecs [.If test body orelse pos] env) k
  | st => .andThen Flow (xExecs [st] env) k
theorem st_native {st : Stmt} {env : Env} {k : Flow → Ph} {E' : Value → Shared → Prop} (H : PhW prog w A c Q E (.andThen Flow (xExecs [st] env) k) s) : wpOwn (model prog w) A c (exec st env) (fun f s' => PhW prog w A c Q E (k f) s') E' s := by
  unfold PhW at H
  rw [xExecs_eq] at H
  exact own_execs1 (wpOwn_mono H (fun _ _ z => z) fun _ _ z => z.elim)
theorem stPh_ok {st : Stmt} {env : Env} {k : Flow → Ph} {E' : Value → Shared → Prop} (H : PhW prog w A c Q E (stPh A c st env k) s) : wpOwn (model prog w) A c (exec st env) (fun f s' => PhW prog w A c Q E (k f) s') E' s := by
  have no : ∀ (E : Value → Shared → Prop) e (s' : Shared), False → E e s' := fun _ _ _ z => z.elim
  unfold stPh at H
  split at H
  · rename_i test body orelse pos
    split at H
    · rename_i left ops rights cp
      split at H
      · split at H
        · rename_i right
          cases hly : listy left with
          | false => rw [hly] at H; exact st_native H
          | true =>
            rw [hly] at H
            dsimp only at H
            cases hu : Nat.blt (A.under c).units 9900 with
            | false => rw [hu] at H; exact H.elim
            | true =>
              rw [hu] at H
              dsimp only at H
              unfold PhW at H
              rw [xEval_eq, xMarkedIn_eq] at H
              have e : exec (.If (.Compare left [.NotEq] [right] cp) body orelse pos) env = (standAt pos >>= fun _ => (do
                let a ← eval left env
                let b ← holding [a] (markedBehindIn .NotEq right (eval right env))
                standAt cp
                let c ← operate [a, b] (richCompare .NotEq a b)
                holding [c] (truthy c)) >>= fun b => if b then execs body env else execs orelse env) := by rfl
              rw [e]
              refine wpOwn_bind (wpOwn_of_wpAny (wpAny_standAt (wpOwn_bind (wpOwn_bind (wpOwn_mono H (fun a s₁ h₁ => ?_) (no _))))))
              unfold PhW at h₁
              refine wpOwn_bind (own_holding (wpOwn_mono h₁ (fun b s₂ h₂ => ?_) (no _)))
              cases a with
              | ref x =>
                cases b with
                | ref y =>
                  dsimp only at h₂
                  unfold PhW at h₂
                  rw [xTypeOf_eq] at h₂
                  refine wpOwn_bind (wpOwn_of_wpAny (wpAny_standAt ?_))
                  refine wpOwn_bind (wpOwn_bind (own_holding (own_holding ?_)))
                  refine wpOwn_bind (wpOwn_of_wpAny (wpAny_cRoomFor (Nat.le_of_ble_eq_true hu) ?_))
                  show wpOwn (model prog w) A c (typeOf (.ref x) >>= _) _ _ s₂
                  refine wpOwn_bind (wpOwn_mono h₂ (fun ta s₃ h₃ => ?_) (no _))
                  unfold PhW at h₃
                  refine wpOwn_bind (wpOwn_mono h₃ (fun tb s₄ h₄ => ?_) (no _))
                  dsimp only at h₄
                  by_cases hab : ta = tb
                  · subst hab
                    rw [decide_eq_true rfl] at h₄
                    dsimp only at h₄
                    unfold PhW at h₄
                    rw [xTryCompare_eq] at h₄
                    have hne : (ta != ta) = false := by simp
                    simp only [hne, Bool.false_eq_true, if_false, pure_bind]
                    refine wpOwn_bind (wpOwn_mono h₄ (fun r s₅ h₅ => ?_) (no _))
                    cases r with
                    | none => exact h₅.elim
                    | some v =>
                      dsimp only at h₅
                      unfold PhW at h₅
                      rw [xTruthy_eq] at h₅
                      refine wpOwn_of_wpAny (wpAny_pure ?_)
                      have rel : ∀ {α : Type} {f : Unit → Sem α} {Q : α → Shared → Prop} {s : Shared}, wpOwn (model prog w) A c (f ()) Q E' s → wpOwn (model prog w) A c (release [.ref x, .ref y] [v] >>= f) Q E' s := by
                        intro α f Q s h
                        refine wpOwn_bind ?_
                        show wpOwn (model prog w) A c (holding ([.ref y] ++ [v]) point >>= fun _ => pure ()) _ _ _
                        exact wpOwn_bind (own_holding (wpOwn_of_wpAny (wpAny_point (wpOwn_of_wpAny (wpAny_pure h)))))
                      refine rel (wpOwn_of_wpAny (wpAny_pure (own_holding (wpOwn_mono h₅ (fun t s₆ h₆ => ?_) (no _)))))
                      cases t with
                      | true =>
                        dsimp only at h₆
                        unfold PhW at h₆
                        rw [xExecs_eq] at h₆
                        rw [if_pos rfl]
                        exact wpOwn_mono h₆ (fun _ _ z => z) (no _)
                      | false =>
                        dsimp only at h₆
                        unfold PhW at h₆
                        rw [xExecs_eq] at h₆
                        rw [if_neg Bool.false_ne_true]
                        exact wpOwn_mono h₆ (fun _ _ z => z) (no _)
                  · rw [decide_eq_false hab] at h₄; exact h₄.elim
                | _ => exact h₂.elim
              | _ => exact h₂.elim
        · exact st_native H
      · exact st_native H
    · exact st_native H
  · exact st_native H
noncomputable def execsPh (A : Around) (c : Code) (env : Env) (k : Flow → Ph) (l : List Stmt) : Ph := match l with
  | [] => k .next
  | st :: rest => stPh A c st env fun f => match f with
    | .next => execsPh A c env k rest
    | f => k f
termination_by structural l
theorem execsPh_ok {env : Env} {k : Flow → Ph} {E' : Value → Shared → Prop} {l : List Stmt} : ∀ {s : Shared}, PhW prog w A c Q E (execsPh A c env k l) s → wpOwn (model prog w) A c (execs l env) (fun f s' => PhW prog w A c Q E (k f) s') E' s := by
  induction l with
  | nil => intro s H; exact wpOwn_of_wpAny (wpAny_pure H)
  | cons st rest ih =>
    intro s H
    rw [execs_cons]
    refine wpOwn_bind (wpOwn_mono (stPh_ok (E' := E') H) (fun f s₁ h₁ => ?_) fun _ _ z => z)
    cases f with
    | next => exact ih h₁
    | _ => exact wpOwn_of_wpAny (wpAny_pure h₁)
/-- one turn of a for loop, with its item, statement by statement -/
noncomputable def forBodyPh (A : Around) (target : Expr) (it : Value) (body orelse : List Stmt) (env : Env) (v : Value) : Ph :=
  .andThen Unit (xOwnedTuple target it v) fun _ => .andThen Unit (xAssign target env v) fun _ => execsPh A (.forLoop target it body orelse env) env (fun f => match f with
      | .next => .done (again (.forLoop target it body orelse env))
      | .cont => .done (again (.forLoop target it body orelse env))
      | .brk => .done (pure (.done .next))
      | .ret v => .done (pure (.done (.ret v)))) body
noncomputable def forPh (A : Around) (target : Expr) (it : Value) (body orelse : List Stmt) (env : Env) : Ph :=
  .andThen (Option Value) (xPyNext it) fun o => match o with
    | none => .done (again (.block orelse env))
    | some v => forBodyPh A target it body orelse env v
theorem forPh_ok {target : Expr} {it : Value} {body orelse : List Stmt} {env : Env} (H : PhW prog w A (.forLoop target it body orelse env) (postC prog w A P) (postE P) (forPh A target it body orelse env) s) : codeAny (model prog w) A (.forLoop target it body orelse env) P s := by
  have no : ∀ (E : Value → Shared → Prop) e (s' : Shared), False → E e s' := fun _ _ _ z => z.elim
  refine y_code _ _ _ _ _ _ ?_
  show wpOwn (model prog w) A _ ((forTurn target it body orelse env).onRaise _) _ _ _
  refine own_onRaise ?_
  unfold forPh PhW at H
  rw [xPyNext_eq] at H
  unfold forTurn
  refine wpOwn_bind (wpOwn_of_wpAny (wpAny_standAt ?_))
  refine wpOwn_bind (own_onRaise (wpOwn_mono H (fun o s₁ h₁ => ?_) (no _)))
  cases o with
  | none =>
    dsimp only at h₁
    unfold PhW at h₁
    exact fun Γ p hc hΓ => h₁ Γ p hc hΓ
  | some v =>
    dsimp only at h₁
    unfold forBodyPh PhW at h₁
    rw [xOwnedTuple_eq, xAssign_eq] at h₁
    refine wpOwn_bind (wpOwn_mono h₁ (fun _ s₂ h₂ => ?_) (no _))
    unfold PhW at h₂
    refine wpOwn_bind (wpOwn_mono h₂ (fun _ s₃ h₃ => ?_) (no _))
    refine wpOwn_bind (wpOwn_mono (execsPh_ok (E' := fun _ _ => False) h₃) (fun f s₄ h₄ => ?_) (no _))
    cases f <;> (unfold PhW at h₄; exact fun Γ p hc hΓ => h₄ Γ p hc hΓ)

noncomputable def isLI (o : Obj) : Bool := match o.cls with
  | .type n => match decide (n = "list_iterator") with
    | false => false
    | true => match o.data with
      | .fields vs => match vs.toList with
        | [.ref _, .int (.ofNat _) 0] => true
        | _ => false
      | _ => false
  | _ => false
theorem isLI_of {h : Heap} {a : Addr} {o : Obj} (ho : h.get? a = some o) (hl : isLI o = true) : ∃ l i, h.IsListIter a l i := by
  unfold isLI at hl
  split at hl
  · rename_i n hn
    split at hl
    · cases hl
    · rename_i hd
      obtain rfl := of_decide_eq_true hd
      split at hl
      · rename_i vs hv
        split at hl
        · rename_i l i e
          refine ⟨l, i, o, ho, hn, ?_⟩
          rw [hv]
          congr 1
          exact Array.ext' e
        · cases hl
      · cases hl
  · cases hl
theorem comp_any {e : Expr} {depth : Nat} {a : Addr} {acc : Value} {env : Env} {E : Value → Shared → Prop} {l i} (hit : s.heap.IsListIter a l i) {Q : Fin → Shared → Prop} (hq : Q (.again (.compLoop e depth (.ref a) acc env)) s) :
    wpAny (model prog w) A (compStart e depth (.ref a) acc env) Q E s := by
  unfold compStart
  split
  · exact wpAny_bind (wpAny_pure (wpAny_pure hq))
  · refine wpAny_bind (wpAny_askSetting ?_)
    split
    · exact wpAny_bind (wpAny_pure (wpAny_pure hq))
    · refine wpAny_bind (wpAny_rule ?_)
      split
      · exact wpAny_bind (wpAny_standAt (wpAny_bind (wpAny_pyIter_listiter hit (wpAny_pure hq))))
      · exact wpAny_bind (wpAny_pyIter_listiter hit (wpAny_pure hq))
/-- what a code does in a woken generator -/
noncomputable def TX (c : Code) : Sem Fin := match c with
  | .compStart e depth it acc env => match it with
    | .ref a => .load a none fun o => match isLI o with
      | true => .pure (.again (.compLoop e depth (.ref a) acc env))
      | false => .unsupported ""
    | it => DD (.compStart e depth it acc env)
  | c => DD c
theorem TX_ok (prog : Program) (w : World) (A : Around) (c : Code) (s : Shared) (P : End → Shared → Prop) (H : SegX (model prog w) A c (TX c) [] s P) : SegX (model prog w) A c (denote table c) [] s P := by
  unfold TX at H
  split at H
  · rename_i e depth it acc env
    split at H
    · rename_i a
      intro Γ p hc hΓ
      have Y : ∀ p, (∃ l i, s.heap.IsListIter a l i) ∧ ∃ en s', Runs (model prog w) Γ p (.pure (.again (.compLoop e depth (.ref a) acc env))) [] s en s' ∧ en.quiet = true ∧ P en s' := by
        intro p
        obtain ⟨en, s', hr, hq, hP⟩ := H Γ p hc hΓ
        cases hr with
        | load ho hr =>
          rename_i o
          dsimp only at hr
          cases hl : isLI o with
          | false => rw [hl] at hr; cases hr
          | true =>
            rw [hl] at hr
            exact ⟨isLI_of ho hl, en, s', hr, hq, hP⟩
      obtain ⟨l, i, hit⟩ := (Y p).1
      have key : ∀ h : Value → Sem Unit, ∃ e₁ s₁, Runs (model prog w) Γ p ((compStart e depth (.ref a) acc env).onRaise h) [] s e₁ s₁ ∧ e₁.quiet = true ∧ P e₁ s₁ := by
        intro h
        rw [Sem.onRaise_eq_wrap]
        refine runs_wrap_of_wp (M := model prog w) (Γ := Γ) (fs := []) (Φ := fun e s' => e.quiet = true ∧ P e s') Sem.pure (fun e => (h e).bind fun _ => .raise e) id id (compStart e depth (.ref a) acc env) (p := p) (s := s)
          (Q := fun fin p' s' => fin = .again (.compLoop e depth (.ref a) acc env) ∧ s' = s) (E := fun _ _ _ => False) ?_ ?_ ?_
        · have z := comp_any (prog := prog) (w := w) (A := A.over Γ.code []) (E := fun _ _ => False) (e := e) (depth := depth) (acc := acc) (env := env) hit (Q := fun fin s' => fin = .again (.compLoop e depth (.ref a) acc env) ∧ s' = s) ⟨rfl, rfl⟩
          exact z (Γ.over []) p (hΓ.over [])
        · rintro _ p' _ ⟨rfl, rfl⟩
          obtain ⟨en, s', hr, hq⟩ := (Y p').2
          exact ⟨en, s', hr, hq⟩
        · intro _ _ _ z; exact z.elim
      show ∃ e₂ s₂, Runs _ Γ p (if (Code.compStart e depth (.ref a) acc env).isFrame then (compStart e depth (.ref a) acc env).onRaise (leaving env) else (compStart e depth (.ref a) acc env).onRaise (fun x => do noteFrame x env; standAt theWindowsPlace)) [] s e₂ s₂ ∧ _
      split
      · exact key _
      · exact key _
    · rw [DD_eq] at H; exact H
  · rw [DD_eq] at H; exact H
noncomputable def compPh (e : Expr) (depth : Nat) (it acc : Value) (env : Env) : Ph := match it with
  | .ref a => .andThen Obj (load a) fun o => match isLI o with
    | true => .done (again (.compLoop e depth (.ref a) acc env))
    | false => .stop
  | _ => .stop
theorem compPh_ok {e : Expr} {depth : Nat} {it acc : Value} {env : Env} (H : PhW prog w A (.compStart e depth it acc env) (postC prog w A P) (postE P) (compPh e depth it acc env) s) : codeAny (model prog w) A (.compStart e depth it acc env) P s := by
  unfold compPh at H
  split at H
  · rename_i a
    unfold PhW at H
    refine y_code _ _ _ _ _ _ ?_
    have key : ∀ h : Value → Sem Unit, wpOwn (model prog w) A (.compStart e depth (.ref a) acc env) ((compStart e depth (.ref a) acc env).onRaise h) (postC prog w A P) (postE P) s := by
      intro h
      refine own_onRaise (fun Γ p hc hΓ => ?_)
      obtain ⟨o, ho, h'⟩ := H Γ p hc hΓ
      change PhW prog w A (.compStart e depth (.ref a) acc env) (postC prog w A P) (postE P) (match isLI o with | true => Ph.done (again (Code.compLoop e depth (Value.ref a) acc env)) | false => Ph.stop) s at h'
      cases hl : isLI o with
      | false => rw [hl] at h'; exact False.elim h'
      | true =>
        rw [hl] at h'
        obtain ⟨l, i, hit⟩ := isLI_of ho hl
        refine comp_any (prog := prog) (w := w) (A := A.under (.compStart e depth (.ref a) acc env)) hit (Q := postC prog w A P) ?_ Γ p (hc ▸ hΓ.in)
        dsimp only at h'
        unfold PhW at h'
        exact h' Γ p hc hΓ
    show wpOwn _ _ _ (if (Code.compStart e depth (.ref a) acc env).isFrame then (compStart e depth (.ref a) acc env).onRaise (leaving env) else (compStart e depth (.ref a) acc env).onRaise (fun x => do noteFrame x env; standAt theWindowsPlace)) _ _ _
    split
    · exact key _
    · exact key _
  · exact H.elim
noncomputable def xDf (prog : Program) (A : Around) (c : Code) : Ph := match c with
  | .func body env => .hint fun n => match n with
    | 0 => xDg prog A (.func body env)
    | 1 => raisePh A body env
    | 2 => catchPh A body env
    | _ => genBodyPh A body env
  | .forLoop target it body orelse env => .hint fun n => match n with
    | 0 => xDg prog A (.forLoop target it body orelse env)
    | _ => forPh A target it body orelse env
  | .compStart e depth it acc env => compPh e depth it acc env
  | c => xDg prog A c
theorem xDf_ok (prog : Program) (w : World) (A : Around) (c : Code) (P : Result → Shared → Prop) (s : Shared)
    (H : PhW prog w A c (postC prog w A P) (postE P) (xDf prog A c) s) : codeAny (model prog w) A c P s := by
  unfold xDf at H
  split at H
  · unfold PhW at H
    obtain ⟨n, H⟩ := H
    match n with
    | 0 => exact xDg_ok _ _ _ _ _ _ H
    | 1 => exact raisePh_ok H
    | 2 => exact catchPh_ok H
    | n + 3 => exact genBodyPh_ok H
  · unfold PhW at H
    obtain ⟨n, H⟩ := H
    match n with
    | 0 => exact xDg_ok _ _ _ _ _ _ H
    | n + 1 => exact forPh_ok H
  · exact compPh_ok H
  · exact xDg_ok _ _ _ _ _ _ H
end
end Mine

namespace Mine
section
variable {prog : Program} {w : World} {A : Around} {c : Code} {s : Shared} {P : Result → Shared → Prop} {Q : Fin → Shared → Prop} {E : Value → Shared → Prop}
noncomputable abbrev xStrSelf := PySem.W.Fast.tw3875223410457345016
noncomputable abbrev xStrSlot := PySem.W.Fast.tw6305510618456154603
noncomputable abbrev xStrOneArg := PySem.W.Fast.tw17482334291692383032
noncomputable abbrev xBuildString := PySem.W.Fast.tw2926755422091781321
noncomputable abbrev xCollect := PySem.W.Fast.tw16476300251587348589
theorem xStrSelf_eq : xStrSelf = Builtin.Str.strSelf := PySem.W.Fast.te3875223410457345016.symm
theorem xStrSlot_eq : xStrSlot = Builtin.Str.strSlot := PySem.W.Fast.te6305510618456154603.symm
theorem xStrOneArg_eq : xStrOneArg = Builtin.Str.strOneArg := PySem.W.Fast.te17482334291692383032.symm
theorem xBuildString_eq : xBuildString = Builtin.Str.buildString := PySem.W.Fast.te2926755422091781321.symm
theorem xCollect_eq : xCollect = collect := PySem.W.Fast.te16476300251587348589.symm

theorem own_tryCatch {α : Type} {m : Sem α} {h : Value → Sem α} {Q : α → Shared → Prop} {E : Value → Shared → Prop}
    (H : wpOwn (model prog w) A c m Q (fun _ _ => False) s) : wpOwn (model prog w) A c (m.tryCatch h) Q E s := fun Γ p hc hΓ => by
  rw [Sem.wp_tryCatch]
  exact Sem.wp_mono _ Γ m (fun _ _ _ z => z) (fun _ _ _ z => z.elim) p s (H Γ p hc hΓ)

/-- str() of an own text -/
noncomputable def strStrPh (a : Addr) (els : Ph) : Ph := .hint fun n => match n with
  | 0 => els
  | _ => .andThen (Value × Str × List Value) (xStrSlot "__str__" 0 ⟨[.ref a], []⟩) fun r => match Builtin.Str.isExactStr r.1 with
    | true => .stop
    | false => .need (.str r.2.1) <| .andThen Nat PySem.fresh fun tk => .done (ret (.str r.2.1 tk))
theorem strStrPh_ok {a : Addr} (H : PhW prog w A (.builtin "str.__str__" ⟨[.ref a], []⟩) (postC prog w A P) (postE P) (strStrPh a (.done (DD (.builtin "str.__str__" ⟨[.ref a], []⟩)))) s) :
    codeAny (model prog w) A (.builtin "str.__str__" ⟨[.ref a], []⟩) P s := by
  unfold strStrPh PhW at H
  obtain ⟨n, H⟩ := H
  have no : ∀ (E : Value → Shared → Prop) e (s' : Shared), False → E e s' := fun _ _ _ z => z.elim
  cases n with
  | zero => exact done_ok H
  | succ n =>
    dsimp only at H
    unfold PhW at H
    rw [xStrSlot_eq] at H
    refine bi_ok (B := Builtin.«str.__str__») (entryFor_of_tree (by kernel_rfl)) ?_
    show wpOwn _ _ _ (Builtin.Str.strSlot "__str__" 0 ⟨[.ref a], []⟩ >>= _) _ _ _
    refine wpOwn_bind (wpOwn_mono H (fun r s₁ h₁ => ?_) (no _))
    obtain ⟨r1, r2, r3⟩ := r
    dsimp only at h₁ ⊢
    cases hx : Builtin.Str.isExactStr r1 with
    | true => rw [hx] at h₁; exact h₁.elim
    | false =>
      rw [hx] at h₁
      dsimp only at h₁
      unfold PhW at h₁
      obtain ⟨hl, h₁⟩ := h₁
      unfold PhW at h₁
      unfold Builtin.Str.strUnchanged mkStr
      rw [if_neg (by rw [hx]; exact Bool.false_ne_true), if_neg (Nat.not_lt.mpr hl)]
      refine wpOwn_bind (wpOwn_bind (wpOwn_mono h₁ (fun tk s' h' => ?_) (no _)))
      exact wpOwn_of_wpAny (wpAny_pure h')

noncomputable def byNm (k : Str) : Sem Value := match ([] : List (Str × Value)).lookup k with
  | some v => pure v
  | none => do rule "str.format.no-such-keyword"; raiseNew (← newExc (.type "KeyError") [← mkStr k])
/-- one field at the end of a text -/
noncomputable def formatPh (f x : Str) (tf tx : Nat) (els : Ph) : Ph := .hint fun n => match n with
  | 0 => els
  | _ => .andThen (Value × Str × List Value) (xStrSelf ⟨[.str f tf, .str x tx], []⟩) fun r => .andThen (Builtin.Str.Writer × Builtin.Str.Numbering) (xBuildString "str.format" (some r.2.2.toArray) byNm 2 r.2.1.cps.toList (some r.1) .unset) fun p => match p.1.whole with
    | some _ => .stop
    | none => match p.1.pieces with
      | [y₂, y₁] => .need (.fmt p.1.total (y₁.cps.toList ++ y₂.cps.toList)) <| .andThen Nat PySem.fresh fun tk => .done (ret (.str (tS (y₁.cps.toList ++ y₂.cps.toList)) tk))
      | _ => .stop
theorem formatPh_ok {f x : Str} {tf tx : Nat} (H : PhW prog w A (.builtin "str.format" ⟨[.str f tf, .str x tx], []⟩) (postC prog w A P) (postE P) (formatPh f x tf tx (.done (DD (.builtin "str.format" ⟨[.str f tf, .str x tx], []⟩)))) s) :
    codeAny (model prog w) A (.builtin "str.format" ⟨[.str f tf, .str x tx], []⟩) P s := by
  unfold formatPh PhW at H
  obtain ⟨n, H⟩ := H
  have no : ∀ (E : Value → Shared → Prop) e (s' : Shared), False → E e s' := fun _ _ _ z => z.elim
  cases n with
  | zero => exact done_ok H
  | succ n =>
    dsimp only at H
    unfold PhW at H
    rw [xStrSelf_eq] at H
    refine bi_ok (B := Builtin.«str.format») (entryFor_of_tree (by kernel_rfl)) ?_
    show wpOwn _ _ _ (Builtin.Str.strSelf ⟨[.str f tf, .str x tx], []⟩ >>= _) _ _ _
    refine wpOwn_bind (wpOwn_mono H (fun r s₁ h₁ => ?_) (no _))
    obtain ⟨r1, r2, r3⟩ := r
    dsimp only at h₁ ⊢
    unfold PhW at h₁
    rw [xBuildString_eq] at h₁
    show wpOwn _ _ _ (Builtin.Str.buildString "str.format" (some r3.toArray) byNm 2 r2.cps.toList (some r1) .unset >>= _) _ _ _
    refine wpOwn_bind (wpOwn_mono h₁ (fun p s₂ h₂ => ?_) (no _))
    obtain ⟨p1, p2⟩ := p
    dsimp only at h₂ ⊢
    cases hw : p1.whole with
    | some _ => rw [hw] at h₂; exact h₂.elim
    | none =>
      rw [hw] at h₂
      dsimp only at h₂
      split at h₂
      · rename_i y₂ y₁ hp
        unfold PhW at h₂
        obtain ⟨⟨e2, e3⟩, h₂⟩ := h₂
        unfold PhW at h₂
        unfold Builtin.Str.Writer.finish
        rw [hw]
        dsimp only
        have e1 : p1.text = tS (y₁.cps.toList ++ y₂.cps.toList) := by
          unfold Builtin.Str.Writer.text
          rw [hp]
          show Str.mk ((#[] ++ y₁.cps) ++ y₂.cps) = Str.mk _
          congr 1
          apply Array.ext'
          simp
        rw [if_neg (by rw [e2]; exact Bool.false_ne_true), e1]
        exact own_retStr e3 h₂
      · exact h₂.elim

/-- two texts of own make, put together by a generator -/
noncomputable def joinPh (sep : Str) (ts : Nat) (it : Addr) (els : Ph) : Ph := .hint fun n => match n with
  | 0 => els
  | _ => .andThen (Value × Str × Value) (xStrOneArg "join" ⟨[.str sep ts, .ref it], []⟩) fun r => .andThen Value (xTypeOf r.2.2) fun t => match (t == .type "list" || t == .type "tuple") with
    | true => .stop
    | false => .andThen Value (xPyIter r.2.2) fun g => .andThen (List Value) (xCollect g) fun items => match items with
      | [x₁, x₂] => .andThen (Option Str) (xAsStr x₁) fun o₁ => match o₁ with
        | none => .stop
        | some s₁ => .andThen (Option Str) (xAsStr x₂) fun o₂ => match o₂ with
          | none => .stop
          | some s₂ => .need (.join s₁ r.2.1 s₂) <|
              .andThen Nat PySem.fresh fun tk => .done (ret (.str (tS (s₁.cps.toList ++ r.2.1.cps.toList ++ s₂.cps.toList)) tk))
      | _ => .stop
theorem joinPh_ok {sep : Str} {ts : Nat} {it : Addr} (H : PhW prog w A (.builtin "str.join" ⟨[.str sep ts, .ref it], []⟩) (postC prog w A P) (postE P) (joinPh sep ts it (.done (DD (.builtin "str.join" ⟨[.str sep ts, .ref it], []⟩)))) s) :
    codeAny (model prog w) A (.builtin "str.join" ⟨[.str sep ts, .ref it], []⟩) P s := by
  unfold joinPh PhW at H
  obtain ⟨n, H⟩ := H
  have no : ∀ (E : Value → Shared → Prop) e (s' : Shared), False → E e s' := fun _ _ _ z => z.elim
  cases n with
  | zero => exact done_ok H
  | succ n =>
    dsimp only at H
    unfold PhW at H
    rw [xStrOneArg_eq] at H
    refine bi_ok (B := Builtin.«str.join») (entryFor_of_tree (by kernel_rfl)) ?_
    show wpOwn _ _ _ (Builtin.Str.strOneArg "join" ⟨[.str sep ts, .ref it], []⟩ >>= _) _ _ _
    refine wpOwn_bind (wpOwn_mono H (fun r s₁ h₁ => ?_) (no _))
    obtain ⟨r1, r2, r3⟩ := r
    dsimp only at h₁ ⊢
    unfold PhW at h₁
    rw [xTypeOf_eq] at h₁
    refine wpOwn_bind (wpOwn_mono h₁ (fun t s₂ h₂ => ?_) (no _))
    dsimp only at h₂
    cases ht : (t == .type "list" || t == .type "tuple") with
    | true => rw [ht] at h₂; exact h₂.elim
    | false =>
      rw [ht] at h₂
      dsimp only at h₂
      unfold PhW at h₂
      rw [xPyIter_eq] at h₂
      rw [if_neg Bool.false_ne_true]
      refine wpOwn_bind (own_tryCatch (wpOwn_mono h₂ (fun g s₃ h₃ => ?_) (no _)))
      unfold PhW at h₃
      rw [xCollect_eq] at h₃
      refine wpOwn_bind (wpOwn_mono h₃ (fun items s₄ h₄ => ?_) (no _))
      dsimp only at h₄
      match items, h₄ with
      | [x₁, x₂], h₄ =>
        dsimp only at h₄
        unfold PhW at h₄
        rw [xAsStr_eq] at h₄
        show wpOwn _ _ _ (forIn [(x₁, 0), (x₂, 1)] _ _ >>= _) _ _ _
        simp only [List.forIn_cons, List.forIn_nil, bind_assoc]
        refine wpOwn_bind (wpOwn_mono h₄ (fun o₁ s₅ h₅ => ?_) (no _))
        cases o₁ with
        | none => exact h₅.elim
        | some y₁ =>
          dsimp only at h₅ ⊢
          unfold PhW at h₅
          simp only [pure_bind, bind_assoc]
          refine wpOwn_bind (wpOwn_mono h₅ (fun o₂ s₆ h₆ => ?_) (no _))
          cases o₂ with
          | none => exact h₆.elim
          | some y₂ =>
            dsimp only at h₆ ⊢
            unfold PhW at h₆
            obtain ⟨⟨e1, e2, e3⟩, h₆⟩ := h₆
            unfold PhW at h₆
            simp only [pure_bind]
            have e4 : ((#[].push y₁).push y₂ : Array Str) = #[y₁, y₂] := rfl
            rw [e4, if_neg (by rw [e1]; exact Bool.false_ne_true)]
            have e5 : (#[y₁, y₂] : Array Str).toList = [y₁, y₂] := rfl
            rw [e5, e2]
            exact own_retStr e3 h₆
      | [], h₄ => exact h₄.elim
      | [_], h₄ => exact h₄.elim
      | _ :: _ :: _ :: _, h₄ => exact h₄.elim
/-- a list of the call's own that takes the items of another object -/
noncomputable def extWithPh (a b : Addr) (r : Value) : Ph :=
  .need (.addr a b) <| .andThen Value (xTypeOf (.ref b)) fun t => match (t == .type "list" || t == .type "tuple") with
    | true => .andThen (Array Value) (xListItems (.ref b)) fun xs => .andThen (Array Value) (xListItems (.ref a)) fun mine => match (!mine.isEmpty && Builtin.List.listTooLong (mine.size + xs.size)) with
      | true => .stop
      | false => .andThen Unit (xListUpdate (.ref a) (· ++ xs)) fun _ => .done (ret r)
    | false => match decide (t = .type "generator") with
      | false => .stop
      | true => .andThen Value (xPyIter (.ref b)) fun iter => .andThen Bool (xListHint (.ref b)) fun room => match room with
        | true => .andThen Unit (xListTouch (.ref a)) fun _ => .done (again (.builtin "list.extend.loop" ⟨[.ref a, iter, r], []⟩))
        | false => .done (again (.builtin "list.extend.loop" ⟨[.ref a, iter, r], []⟩))
theorem extWithPh_ok {a b : Addr} {r : Value} (H : PhW prog w A c (postC prog w A P) (postE P) (extWithPh a b r) s) : wpOwn (model prog w) A c (Builtin.List.listExtendWith (.ref a) (.ref b) r) (postC prog w A P) (postE P) s := by
  unfold extWithPh PhW at H
  obtain ⟨ne, H⟩ := H
  have ne : a ≠ b := ne
  have no : ∀ e (s' : Shared), False → postE P e s' := fun _ _ z => z.elim
  have hs : Builtin.List.listSameRef (.ref a) (.ref b) = false := by
    show (a == b) = false
    simpa using ne
  unfold PhW at H
  rw [xTypeOf_eq] at H
  unfold Builtin.List.listExtendWith
  refine wpOwn_bind (wpOwn_mono H (fun t s₁ h₁ => ?_) no)
  dsimp only at h₁
  rw [hs, Bool.false_or]
  cases ht : (t == .type "list" || t == .type "tuple") with
  | true =>
    rw [ht] at h₁
    dsimp only at h₁
    unfold PhW at h₁
    rw [xListItems_eq] at h₁
    rw [if_pos rfl]
    refine wpOwn_bind (wpOwn_mono h₁ (fun xs s₂ h₂ => ?_) no)
    unfold PhW at h₂
    refine wpOwn_bind (wpOwn_mono h₂ (fun mine s₃ h₃ => ?_) no)
    dsimp only at h₃
    cases hl : (!mine.isEmpty && Builtin.List.listTooLong (mine.size + xs.size)) with
    | true => rw [hl] at h₃; exact h₃.elim
    | false =>
      rw [hl] at h₃
      dsimp only at h₃
      unfold PhW at h₃
      rw [xListUpdate_eq] at h₃
      dsimp only
      rw [if_neg Bool.false_ne_true]
      exact wpOwn_bind (wpOwn_mono h₃ (fun _ s₄ h₄ => h₄) no)
  | false =>
    rw [ht] at h₁
    dsimp only at h₁
    by_cases hgen : t = .type "generator"
    · subst hgen
      rw [decide_eq_true rfl] at h₁
      dsimp only at h₁
      unfold PhW at h₁
      rw [xPyIter_eq] at h₁
      rw [if_neg Bool.false_ne_true]
      refine wpOwn_bind (wpOwn_mono h₁ (fun iter s₂ h₂ => ?_) no)
      unfold PhW at h₂
      rw [xListHint_eq] at h₂
      refine wpOwn_bind (fun Γ p hc hΓ => ?_)
      rw [Sem.wp_holding]
      refine Sem.wp_mono _ Γ _ (fun room p' s₃ h₃ => ?_) (fun _ _ _ z => z.elim) p s₂ (h₂ Γ p hc hΓ)
      cases room with
      | true =>
        dsimp only at h₃
        unfold PhW at h₃
        rw [xListTouch_eq] at h₃
        dsimp only; rw [Bool.true_or, if_pos rfl]
        have z : wpOwn (model prog w) A c (rule "list.extend.makes-room" >>= fun _ => Builtin.List.listTouch (.ref a) >>= fun _ => again (.builtin "list.extend.loop" ⟨[.ref a, iter, r], []⟩)) (postC prog w A P) (postE P) s₃ :=
          wpOwn_bind (wpOwn_of_wpAny (wpAny_rule (wpOwn_bind (wpOwn_mono h₃ (fun _ _ z => z) no))))
        exact z
      | false =>
        dsimp only
        rw [if_neg (by decide +kernel)]
        exact h₃
    · rw [decide_eq_false hgen] at h₁
      exact h₁.elim
/-- list.__init__ of a list of the call's own -/
noncomputable def initPh (a b : Addr) : Ph := .andThen (Array Value) (xListItems (.ref a)) fun old => .andThen Unit (xListUpdate (.ref a) fun _ => #[]) fun _ => .andThen Unit (xLetGo old.toList.reverse []) fun _ => extWithPh a b .none
theorem initPh_ok {a b : Addr} (H : PhW prog w A (.builtin "list.__init__" ⟨[.ref a, .ref b], []⟩) (postC prog w A P) (postE P) (initPh a b) s) :
    codeAny (model prog w) A (.builtin "list.__init__" ⟨[.ref a, .ref b], []⟩) P s := by
  have no : ∀ (E : Value → Shared → Prop) e (s' : Shared), False → E e s' := fun _ _ _ z => z.elim
  unfold initPh PhW at H
  rw [xListItems_eq] at H
  refine bi_ok (B := Builtin.«list.__init__») (entryFor_of_tree (by kernel_rfl)) ?_
  show wpOwn _ _ _ (Builtin.List.listItems (.ref a) >>= fun old => Builtin.List.listUpdate (.ref a) (fun _ => #[]) >>= fun _ => letGo old.toList.reverse >>= fun _ => Builtin.List.listExtendWith (.ref a) (.ref b) .none) _ _ _
  refine wpOwn_bind (wpOwn_mono H (fun old s₁ h₁ => ?_) (no _))
  unfold PhW at h₁
  rw [xListUpdate_eq] at h₁
  refine wpOwn_bind (wpOwn_mono h₁ (fun _ s₂ h₂ => ?_) (no _))
  unfold PhW at h₂
  rw [xLetGo_eq] at h₂
  exact wpOwn_bind (wpOwn_mono h₂ (fun _ s₃ h₃ => extWithPh_ok h₃) (no _))
/-- a whole number above another -/
noncomputable def gtPh (a b : Int) (els : Ph) : Ph := .hint fun n => match n with
  | 0 => els
  | _ => .need (.gt a b) <| .done (ret (.bool true))
theorem gtPh_ok {a b : Int} {ta tb : Nat} (H : PhW prog w A (.builtin "int.__gt__" ⟨[.int a ta, .int b tb], []⟩) (postC prog w A P) (postE P) (gtPh a b (.done (DD (.builtin "int.__gt__" ⟨[.int a ta, .int b tb], []⟩)))) s) :
    codeAny (model prog w) A (.builtin "int.__gt__" ⟨[.int a ta, .int b tb], []⟩) P s := by
  unfold gtPh PhW at H
  obtain ⟨n, H⟩ := H
  cases n with
  | zero => exact done_ok H
  | succ n =>
    dsimp only at H
    unfold PhW at H
    obtain ⟨h, H⟩ := H
    have h : a > b := h
    unfold PhW at H
    refine bi_ok (B := Builtin.«int.__gt__») (entryFor_of_tree (by kernel_rfl)) ?_
    show wpOwn _ _ _ (ret (.bool (decide (a > b)))) _ _ _
    rw [decide_eq_true h]
    exact H
/-- what is left of a division -/
noncomputable def modPh (a b : Int) (els : Ph) : Ph := .hint fun n => match n with
  | 0 => els
  | k + 1 => .need (.mod a b k) <| .andThen Nat PySem.fresh fun tk => .done (ret (.int (Int.ofNat k) tk))
theorem modPh_ok {a b : Int} {ta tb : Nat} (H : PhW prog w A (.builtin "int.__mod__" ⟨[.int a ta, .int b tb], []⟩) (postC prog w A P) (postE P) (modPh a b (.done (DD (.builtin "int.__mod__" ⟨[.int a ta, .int b tb], []⟩)))) s) :
    codeAny (model prog w) A (.builtin "int.__mod__" ⟨[.int a ta, .int b tb], []⟩) P s := by
  unfold modPh PhW at H
  obtain ⟨n, H⟩ := H
  have no : ∀ (E : Value → Shared → Prop) e (s' : Shared), False → E e s' := fun _ _ _ z => z.elim
  cases n with
  | zero => exact done_ok H
  | succ n =>
    dsimp only at H
    unfold PhW at H
    obtain ⟨⟨h1, h2⟩, H⟩ := H
    unfold PhW at H
    refine bi_ok (B := Builtin.«int.__mod__») (entryFor_of_tree (by kernel_rfl)) ?_
    show wpOwn _ _ _ (if (b == 0) = true then _ else retInt (a.fmod b)) _ _ _
    rw [if_neg (by simpa using h1), h2]
    unfold retInt mkInt
    exact wpOwn_bind (wpOwn_bind (wpOwn_mono H (fun tk s' h' => wpOwn_of_wpAny (wpAny_pure h')) (no _)))
/-- how far a number is from nought -/
noncomputable def absPh (x : Int) (t : Nat) (els : Ph) : Ph := .hint fun n => match n with
  | 0 => els
  | 1 => .need (.gt 0 x) <| .andThen Nat PySem.fresh fun tk => .done (ret (.int (Int.ofNat x.natAbs) tk))
  | _ => .need (.gt (x + 1) 0) <| .done (ret (.int (Int.ofNat x.natAbs) t))
theorem absPh_ok {x : Int} {t : Nat} (H : PhW prog w A (.builtin "int.__abs__" ⟨[.int x t], []⟩) (postC prog w A P) (postE P) (absPh x t (.done (DD (.builtin "int.__abs__" ⟨[.int x t], []⟩)))) s) :
    codeAny (model prog w) A (.builtin "int.__abs__" ⟨[.int x t], []⟩) P s := by
  unfold absPh PhW at H
  obtain ⟨n, H⟩ := H
  have no : ∀ (E : Value → Shared → Prop) e (s' : Shared), False → E e s' := fun _ _ _ z => z.elim
  match n with
  | 0 => exact done_ok H
  | 1 =>
    dsimp only at H
    unfold PhW at H
    obtain ⟨h, H⟩ := H
    have h : (0 : Int) > x := h
    unfold PhW at H
    refine bi_ok (B := Builtin.«int.__abs__») (entryFor_of_tree (by kernel_rfl)) ?_
    show wpOwn _ _ _ (if x < 0 then retInt (-x) else _) _ _ _
    rw [if_pos h]
    have e : -x = Int.ofNat x.natAbs := by rw [Int.ofNat_eq_natCast]; omega
    rw [e]
    unfold retInt mkInt
    exact wpOwn_bind (wpOwn_bind (wpOwn_mono H (fun tk s' h' => wpOwn_of_wpAny (wpAny_pure h')) (no _)))
  | n + 2 =>
    dsimp only at H
    unfold PhW at H
    obtain ⟨h, H⟩ := H
    have h : x + 1 > 0 := h
    unfold PhW at H
    refine bi_ok (B := Builtin.«int.__abs__») (entryFor_of_tree (by kernel_rfl)) ?_
    show wpOwn _ _ _ (if x < 0 then retInt (-x) else ret (.int x t)) _ _ _
    rw [if_neg (by omega)]
    have e : x = Int.ofNat x.natAbs := by rw [Int.ofNat_eq_natCast]; omega
    rw [← e] at H
    exact H
noncomputable def isSlice12 (o : Obj) : Bool := match o.cls with
  | .type n => match decide (n = "slice") with
    | false => false
    | true => match o.data with
      | .fields vs => match vs.toList with
        | [.none, .int k _, .none] => decide (k = 12)
        | _ => false
      | _ => false
  | _ => false
noncomputable def listIn (o : Obj) : Option (Array Value) := match o.cls with
  | .type n => match decide (n = "list") with
    | false => none
    | true => match o.data with
      | .seq vs _ => some vs
      | _ => none
  | _ => none
theorem isSlice12_of {h : Heap} {a : Addr} {o : Obj} (ho : h.get? a = some o) (e : isSlice12 o = true) : ∃ t, h.IsSliceOf a .none (.int 12 t) .none := by
  unfold isSlice12 at e
  split at e
  · rename_i n hn
    split at e
    · cases e
    · rename_i hd
      obtain rfl := of_decide_eq_true hd
      split at e
      · rename_i vs hv
        split at e
        · rename_i k t hl
          obtain rfl := of_decide_eq_true e
          refine ⟨t, o, ho, hn, ?_⟩
          rw [hv]
          congr 1
          exact Array.ext' hl
        · cases e
      · cases e
  · cases e
theorem listIn_of {h : Heap} {a : Addr} {o : Obj} {vs : Array Value} (ho : h.get? a = some o) (e : listIn o = some vs) : h.IsList a vs := by
  unfold listIn at e
  split at e
  · rename_i n hn
    split at e
    · cases e
    · rename_i hd
      obtain rfl := of_decide_eq_true hd
      split at e
      · rename_i vs' m hv
        injection e with e
        subst e
        exact ⟨o, ho, hn, m, hv⟩
      · cases e
  · cases e
/-- the first twelve of a list -/
noncomputable def slLsPh (a sl : Addr) (els : Ph) : Ph := .hint fun n => match n with
  | 0 => els
  | _ => .andThen Obj (load sl) fun os => .andThen Obj (load a) fun oa => match isSlice12 os with
    | false => .stop
    | true => match listIn oa with
      | none => .stop
      | some vs => .need (.le vs.size sizeLine) <| .andThen Addr (PySem.alloc { cls := .type "list", data := .seq (slicePick vs none (some 12) none) }) fun n => .done (ret (.ref n))
theorem slLsPh_ok {a sl : Addr} (H : PhW prog w A (.builtin "list.__getitem__" ⟨[.ref a, .ref sl], []⟩) (postC prog w A P) (postE P) (slLsPh a sl (.done (DD (.builtin "list.__getitem__" ⟨[.ref a, .ref sl], []⟩)))) s) :
    codeAny (model prog w) A (.builtin "list.__getitem__" ⟨[.ref a, .ref sl], []⟩) P s := by
  unfold slLsPh PhW at H
  obtain ⟨n, H⟩ := H
  cases n with
  | zero => exact done_ok H
  | succ n =>
    dsimp only at H
    unfold PhW at H
    refine bi_ok (B := Builtin.«list.__getitem__») (entryFor_of_tree (by kernel_rfl)) ?_
    show wpOwn _ _ _ (Builtin.List.listSubscript? (.ref sl) >>= _) _ _ s
    intro Γ p hcΓ hΓ
    obtain ⟨os, hos, h₁⟩ := H Γ p hcΓ hΓ
    change PhW prog w A _ (postC prog w A P) (postE P) _ s at h₁
    unfold PhW at h₁
    obtain ⟨oa, hoa, h₂⟩ := h₁ Γ p hcΓ hΓ
    change PhW prog w A (.builtin "list.__getitem__" ⟨[.ref a, .ref sl], []⟩) (postC prog w A P) (postE P) (match isSlice12 os with
      | false => .stop
      | true => match listIn oa with
        | none => .stop
        | some vs => .need (.le vs.size sizeLine) <| .andThen Addr (PySem.alloc { cls := .type "list", data := .seq (slicePick vs none (some 12) none) }) fun n => .done (ret (.ref n))) s at h₂
    cases e1 : isSlice12 os with
    | false => rw [e1] at h₂; exact h₂.elim
    | true =>
      rw [e1] at h₂
      dsimp only at h₂
      cases e2 : listIn oa with
      | none => rw [e2] at h₂; exact h₂.elim
      | some vs =>
        rw [e2] at h₂
        dsimp only at h₂
        unfold PhW at h₂
        obtain ⟨hsz, h₂⟩ := h₂
        have hsz : vs.size ≤ sizeLine := hsz
        unfold PhW at h₂
        obtain ⟨t, hsl⟩ := isSlice12_of hos e1
        have hls := listIn_of hoa e2
        have fin : postC prog w A P (.done (.ret (.ref s.heap.objs.size))) { s with heap := s.heap.push { cls := .type "list", data := .seq (slicePick vs none (some 12) none) } } := by
          have z := h₂ Γ p hcΓ hΓ
          change PhW prog w A _ (postC prog w A P) (postE P) (.done (ret (.ref s.heap.objs.size))) _ at z
          unfold PhW at z
          exact z Γ p hcΓ hΓ
        obtain ⟨o, ho, hc, ne, hd⟩ := id hls
        obtain ⟨os', hos', hcs, hds⟩ := id hsl
        have hTs : s.TypeIs (.ref sl) "slice" := ⟨os', hos', hcs⟩
        have go : wpAny (model prog w) (A.under (.builtin "list.__getitem__" ⟨[.ref a, .ref sl], []⟩)) (Builtin.«list.__getitem__» ⟨[.ref a, .ref sl], []⟩) (postC prog w A P) (postE P) s := by
          show wpAny _ _ (Builtin.List.listSubscript? (.ref sl) >>= _) _ _ s
          refine wpAny_bind ?_
          unfold Builtin.List.listSubscript?
          refine wpAny_bind (wpAny_specialOf hTs slice_no_index ?_)
          simp only [Option.isNone_none, if_true]
          refine wpAny_pure ?_
          show wpAny _ _ (typeOf (.ref sl) >>= _) _ _ s
          refine wpAny_bind (wpAny_typeOf hTs ?_)
          rw [if_neg (by decide)]
          rw [listSliceParts_eq]
          refine wpAny_bind (wpAny_bind (wpAny_field hos' hds (x := .none) rfl (wpAny_bind (wpAny_listPart IsPart.none ?_))))
          rw [if_neg (show ¬ ((rawPart none == rawInt 0) = true) from Bool.false_ne_true)]
          refine wpAny_bind (wpAny_field hos' hds (x := .none) rfl (wpAny_bind (wpAny_listPart IsPart.none ?_)))
          refine wpAny_bind (wpAny_field hos' hds (x := .int 12 t) rfl (wpAny_bind (wpAny_listPart (IsPart.int 12 t) (wpAny_pure ?_))))
          refine wpAny_bind (m := Builtin.List.listItems (.ref a)) ?_
          unfold Builtin.List.listItems
          refine wpAny_bind (wpAny_seqItems ho hd (wpAny_pure ?_))
          refine wpAny_bind (wpAny_of_eq (sliceIndices_raw none (some 12) none vs.size (by simp)) ?_)
          exact wpAny_bind (wpAny_newObj_type (wpAny_pure fin) (Nat.le_trans (slicePick_size_le vs none (some 12) none) hsz))
        exact go Γ p (hcΓ ▸ hΓ.in)
/-- two lists, one behind the other -/
noncomputable def addLsPh (a b : Addr) (els : Ph) : Ph := .hint fun n => match n with
  | 0 => els
  | _ => .andThen Bool (xIsInstance (.ref b) (.type "list")) fun t => match t with
    | false => .stop
    | true => .andThen (Array Value) (xListItems (.ref a)) fun xs => .andThen (Array Value) (xListItems (.ref b)) fun ys => .need (.le (xs.size + ys.size) sizeLine) <|
        .andThen Addr (PySem.alloc { cls := .type "list", data := .seq (xs ++ ys) }) fun n => .done (ret (.ref n))
theorem addLsPh_ok {a b : Addr} (H : PhW prog w A (.builtin "list.__add__" ⟨[.ref a, .ref b], []⟩) (postC prog w A P) (postE P) (addLsPh a b (.done (DD (.builtin "list.__add__" ⟨[.ref a, .ref b], []⟩)))) s) :
    codeAny (model prog w) A (.builtin "list.__add__" ⟨[.ref a, .ref b], []⟩) P s := by
  unfold addLsPh PhW at H
  obtain ⟨n, H⟩ := H
  have no : ∀ (E : Value → Shared → Prop) e (s' : Shared), False → E e s' := fun _ _ _ z => z.elim
  cases n with
  | zero => exact done_ok H
  | succ n =>
    dsimp only at H
    unfold PhW at H
    rw [xIsInstance_eq] at H
    refine bi_ok (B := Builtin.«list.__add__») (entryFor_of_tree (by kernel_rfl)) ?_
    show wpOwn _ _ _ (isInstance (.ref b) (.type "list") >>= _) _ _ s
    refine wpOwn_bind (wpOwn_mono H (fun t s₁ h₁ => ?_) (no _))
    cases t with
    | false => exact h₁.elim
    | true =>
      dsimp only at h₁
      unfold PhW at h₁
      rw [xListItems_eq] at h₁
      rw [if_neg (by decide)]
      refine wpOwn_bind (wpOwn_mono h₁ (fun xs s₂ h₂ => ?_) (no _))
      unfold PhW at h₂
      refine wpOwn_bind (wpOwn_mono h₂ (fun ys s₃ h₃ => ?_) (no _))
      unfold PhW at h₃
      obtain ⟨hsz, h₃⟩ := h₃
      have hsz : xs.size + ys.size ≤ sizeLine := hsz
      unfold PhW at h₃
      refine wpOwn_bind (fun Γ p hc hΓ => ?_)
      refine wpAny_newObj_type (M := model prog w) (A := A.under (.builtin "list.__add__" ⟨[.ref a, .ref b], []⟩)) (Q := fun v s' => wpOwn (model prog w) A (.builtin "list.__add__" ⟨[.ref a, .ref b], []⟩) (ret v) (postC prog w A P) (postE P) s') (E := postE P) ?_ (by show (xs ++ ys).size ≤ _; rw [Array.size_append]; exact hsz) Γ p (hc ▸ hΓ.in)
      exact h₃ Γ p hc hΓ
noncomputable def xDy (prog : Program) (A : Around) (c : Code) : Ph := match c with
  | .builtin id args => match args with
    | ⟨[.ref a], []⟩ => match decide (id = "str.__str__") with
      | true => strStrPh a (.done (DD (.builtin id ⟨[.ref a], []⟩)))
      | false => match decide (id = "len") with
        | true => lenPh (.ref a) (.done (DD (.builtin id ⟨[.ref a], []⟩)))
        | false => xDf prog A (.builtin id ⟨[.ref a], []⟩)
    | ⟨[.int x t], []⟩ => match decide (id = "int.__abs__") with
      | true => absPh x t (.done (DD (.builtin id ⟨[.int x t], []⟩)))
      | false => xDf prog A (.builtin id ⟨[.int x t], []⟩)
    | ⟨[.ref a, .ref b], []⟩ => match decide (id = "list.__init__") with
      | true => initPh a b
      | false => match decide (id = "list.__getitem__") with
        | true => slLsPh a b (.done (DD (.builtin id ⟨[.ref a, .ref b], []⟩)))
        | false => match decide (id = "list.__add__") with
          | true => addLsPh a b (.done (DD (.builtin id ⟨[.ref a, .ref b], []⟩)))
          | false => xDf prog A (.builtin id ⟨[.ref a, .ref b], []⟩)
    | ⟨[.int a ta, .int b tb], []⟩ => match decide (id = "int.__gt__") with
      | true => gtPh a b (.done (DD (.builtin id ⟨[.int a ta, .int b tb], []⟩)))
      | false => match decide (id = "int.__mod__") with
        | true => modPh a b (.done (DD (.builtin id ⟨[.int a ta, .int b tb], []⟩)))
        | false => xDf prog A (.builtin id ⟨[.int a ta, .int b tb], []⟩)
    | ⟨[.str f tf, .str x tx], []⟩ => match decide (id = "str.format") with
      | true => formatPh f x tf tx (.done (DD (.builtin id ⟨[.str f tf, .str x tx], []⟩)))
      | false => xDf prog A (.builtin id ⟨[.str f tf, .str x tx], []⟩)
    | ⟨[.str f tf, .ref a], []⟩ => match decide (id = "str.join") with
      | true => joinPh f tf a (.done (DD (.builtin id ⟨[.str f tf, .ref a], []⟩)))
      | false => xDf prog A (.builtin id ⟨[.str f tf, .ref a], []⟩)
    | args => xDf prog A (.builtin id args)
  | c => xDf prog A c
theorem xDy_ok (prog : Program) (w : World) (A : Around) (c : Code) (P : Result → Shared → Prop) (s : Shared)
    (H : PhW prog w A c (postC prog w A P) (postE P) (xDy prog A c) s) : codeAny (model prog w) A c P s := by
  unfold xDy at H
  split at H
  · split at H
    · split at H
      · rename_i q; obtain rfl := of_decide_eq_true q; exact strStrPh_ok H
      · split at H
        · rename_i q; obtain rfl := of_decide_eq_true q; exact lenPh_ok H
        · exact xDf_ok _ _ _ _ _ _ H
    · split at H
      · rename_i q; obtain rfl := of_decide_eq_true q; exact absPh_ok H
      · exact xDf_ok _ _ _ _ _ _ H
    · split at H
      · rename_i q; obtain rfl := of_decide_eq_true q; exact initPh_ok H
      · split at H
        · rename_i q; obtain rfl := of_decide_eq_true q; exact slLsPh_ok H
        · split at H
          · rename_i q; obtain rfl := of_decide_eq_true q; exact addLsPh_ok H
          · exact xDf_ok _ _ _ _ _ _ H
    · split at H
      · rename_i q; obtain rfl := of_decide_eq_true q; exact gtPh_ok H
      · split at H
        · rename_i q; obtain rfl := of_decide_eq_true q; exact modPh_ok H
        · exact xDf_ok _ _ _ _ _ _ H
    · split at H
      · rename_i q; obtain rfl := of_decide_eq_true q; exact formatPh_ok H
      · exact xDf_ok _ _ _ _ _ _ H
    · split at H
      · rename_i q; obtain rfl := of_decide_eq_true q; exact joinPh_ok H
      · exact xDf_ok _ _ _ _ _ _ H
    · exact xDf_ok _ _ _ _ _ _ H
  · exact xDf_ok _ _ _ _ _ _ H
end
end Mine

namespace Mine
noncomputable abbrev PP := PySem.Challenge.pw_io0047_01
noncomputable abbrev SmTy := Nat → Around → Code → St → Option (Result × St)
noncomputable def sm0 : SmTy := fun _ _ _ _ => none
/-- a world whose habits at three rows are told -/
noncomputable def wF (w : World) (b₁ b₂ b₃ : Bool) : World := ((w.withFollow "special-get-raises" b₁).withFollow "comprehension-iter-twice" b₂).withFollow "for-iterable-display-folded" b₃
theorem wF_self (w : World) : ∃ b₁ b₂ b₃, w = wF w b₁ b₂ b₃ := by
  refine ⟨w.params.followText "special-get-raises", w.params.followText "comprehension-iter-twice", w.params.followText "for-iterable-display-folded", ?_⟩
  unfold wF
  rw [World.withFollow_self, World.withFollow_self, World.withFollow_self]
noncomputable def VV (w : World) (h₀ : Heap) (g : Array GenState) (d : Drawn) (os : OsState) (sm : SmTy) : Cfg :=
  { T := TX, D := xDy PP, prog := PP, w, K := hd.heap_39 w.params, off := [147, 155], h₀, g, d, os, sm }
noncomputable def callT (c : Code) : Sem Result := .call c none false [] Sem.pure
/-- what is read off a run: its value, objects of the ledger by their places, the counts, the hints left, the conditions, one side of the equations -/
noncomputable abbrev Sum (α : Type) := Option (α × List (Option (Addr × Obj)) × (Nat × Nat × Nat × Nat × List (Addr × Obj) × List GenState) × List Nat × List Dsc × List Nat)
noncomputable def Out.sum {α : Type} (ks : List Nat) : Out α → Sum α
  | .ok a st => some (a, ks.map (st.news[·]?), (st.b, st.t, st.m, st.i, st.ch, st.gl), st.hs, prL st.eq, eqL st.eq)
  | _ => none
/-- a frame's slots, the one aside that hangs on the stack -/
noncomputable def eraseBk (o : Obj) : Obj := match o with
  | ⟨c, d, x, sl⟩ => match sl with
    | ⟨l⟩ => match l with
      | [a₁, a₂, a₃, some _, a₅, a₆, a₇] => ⟨c, d, x, #[a₁, a₂, a₃, some .none, a₅, a₆, a₇]⟩
      | _ => ⟨.none, d, x, #[]⟩
noncomputable abbrev SumE (α : Type) := Option (α × List (Option (Addr × Obj)) × (Nat × Nat × Nat × Nat × List (Addr × Obj) × List GenState) × List Nat × List Dsc × List Nat × Option (Addr × Obj))
noncomputable def Out.sumE {α : Type} (ks : List Nat) (k : Nat) : Out α → SumE α
  | .ok a st => some (a, ks.map (st.news[·]?), (st.b, st.t, st.m, st.i, st.ch, st.gl), st.hs, prL st.eq, eqL st.eq, (st.news[k]?).map fun p => (p.1, eraseBk p.2))
  | _ => none
noncomputable def Out.rt {α : Type} : Out α → List Nat
  | .ok _ st => eqR st.eq
  | _ => []
noncomputable def A0 : Around := { handled := none, depth := 400, frames := none, guards := none, units := 1000 }
end Mine

namespace Mine
noncomputable def fdIn (K : Frag) (a : Nat) : FuncData := match look K a with
  | some o => match o.data with
    | .func fd => fd
    | _ => default
  | none => default
noncomputable def whOf : List Stmt → Option (Expr × List Stmt × List Stmt)
  | [] => none
  | s :: r => match s with
    | .While t b o _ => some (t, b, o)
    | _ => whOf r
noncomputable def loopIn (K : Frag) (a L : Nat) : Code := match (fdIn K a).body with
  | .stmts b => match whOf b with
    | some (t, b, o) => .whileLoop t b o (callEnv (fdIn K a) L a)
    | none => default
  | _ => default
noncomputable def gsFrame (h₁ h₂ h₃ : Int) (k₁ k₂ k₃ : Nat) (V D : List Nat) (tv td : Nat) (x : Value) : Obj :=
  { cls := .type "frame", data := .dict #[⟨h₁, .str (Str.ofString "value") k₁, .str (tS V) tv⟩, ⟨h₂, .str (Str.ofString "section") k₂, x⟩, ⟨h₃, .str (Str.ofString "digits") k₃, .str (tS D) td⟩] 3 }
end Mine

namespace Mine
noncomputable abbrev KK (w : World) : Frag := hd.heap_39 w.params
noncomputable abbrev VF (w : World) (f₁ f₂ f₃ : Bool) (h₀ : Heap) (g : Array GenState) (d : Drawn) (os : OsState) : Cfg := VV (wF w f₁ f₂ f₃) h₀ g d os sm0
noncomputable def hW1 : List Nat := [1, 0, 1, 0, 1, 0, 1, 0, 1, 1, 1, 0, 1, 0, 1, 1, 1, 1, 0, 1, 1, 1, 1, 1, 2, 2]
noncomputable def hW0 : List Nat := [1, 0, 1, 0, 1, 0, 1, 0, 1, 1, 1, 0, 1, 0, 0, 1, 1, 1, 0, 1, 1, 1, 1, 1, 2, 2]
noncomputable def hWe : List Nat := [1, 0, 1, 0]
noncomputable def hWn : List Nat := [1, 0, 1, 0, 1, 0, 1, 0, 2]
section
variable (w : World) (f₁ f₂ f₃ : Bool) (h₀ : Heap) (g : Array GenState) (d : Drawn) (os : OsState) (A : Around) (b t L : Nat) (h₁ h₂ h₃ : Int) (k₁ k₂ k₃ tv td : Nat) (X : Value) (sk : Sk)
noncomputable abbrev lp (w : World) (f₁ f₂ f₃ : Bool) (L : Nat) : Code := loopIn (KK (wF w f₁ f₂ f₃)) 345 L
noncomputable def wrun (D V : List Nat) (hs : List Nat) : Out Fin :=
  run (VF w f₁ f₂ f₃ h₀ g d os) 300 A (lp w f₁ f₂ f₃ L) Fin (DD (lp w f₁ f₂ f₃ L)) ⟨b, t, [(L, gsFrame h₁ h₂ h₃ k₁ k₂ k₃ V D tv td X)], 358, 0, hs, [], [], []⟩ sk
theorem wl_turn (x y : Nat) (r ds : List Nat) : (wrun w f₁ f₂ f₃ h₀ g d os A b t L h₁ h₂ h₃ k₁ k₂ k₃ tv td X sk (y :: ds) (x :: r) hW1).sum [1] =
    some (.again (lp w f₁ f₂ f₃ L), [some (L, gsFrame h₁ h₂ h₃ k₁ k₂ k₃ r ((y :: ds) ++ [x]) (t + 9) (t + 6) X)], (b, t, 359, 11, [], []), [],
      [.size r, .add (tS (y :: ds)) (tS [x]), .dig (tS [x]), .small ((x :: r).length : Nat)],
      (wrun w f₁ f₂ f₃ h₀ g d os A b t L h₁ h₂ h₃ k₁ k₂ k₃ tv td X sk (y :: ds) (x :: r) hW1).rt) := by
  cases f₁ <;> kernel_rfl
theorem wl_first (x : Nat) (r : List Nat) : (wrun w f₁ f₂ f₃ h₀ g d os A b t L h₁ h₂ h₃ k₁ k₂ k₃ tv td X sk [] (x :: r) hW0).sum [1] =
    some (.again (lp w f₁ f₂ f₃ L), [some (L, gsFrame h₁ h₂ h₃ k₁ k₂ k₃ r [x] (t + 8) (t + 5) X)], (b, t, 359, 10, [], []), [],
      [.size r, .dig (tS [x]), .small ((x :: r).length : Nat)],
      (wrun w f₁ f₂ f₃ h₀ g d os A b t L h₁ h₂ h₃ k₁ k₂ k₃ tv td X sk [] (x :: r) hW0).rt) := by
  cases f₁ <;> kernel_rfl
theorem wl_end (D : List Nat) : (wrun w f₁ f₂ f₃ h₀ g d os A b t L h₁ h₂ h₃ k₁ k₂ k₃ tv td X sk D [] hWe).sum [0] =
    some (.done .next, [some (L, gsFrame h₁ h₂ h₃ k₁ k₂ k₃ [] D tv td X)], (b, t, 358, 2, [], []), [], [.small (([] : List Nat).length : Nat)],
      (wrun w f₁ f₂ f₃ h₀ g d os A b t L h₁ h₂ h₃ k₁ k₂ k₃ tv td X sk D [] hWe).rt) := by
  cases f₁ <;> kernel_rfl
theorem wl_stop (x : Nat) (r D : List Nat) : (wrun w f₁ f₂ f₃ h₀ g d os A b t L h₁ h₂ h₃ k₁ k₂ k₃ tv td X sk D (x :: r) hWn).sum [0] =
    some (.done .next, [some (L, gsFrame h₁ h₂ h₃ k₁ k₂ k₃ (x :: r) D tv td X)], (b, t, 358, 4, [], []), [], [.nodig (tS [x]), .small ((x :: r).length : Nat)],
      (wrun w f₁ f₂ f₃ h₀ g d os A b t L h₁ h₂ h₃ k₁ k₂ k₃ tv td X sk D (x :: r) hWn).rt) := by
  cases f₁ <;> kernel_rfl
end
end Mine

namespace Mine

theorem codeAny_run {V : Cfg} (O : V.Ok) {n : Nat} {A : Around} {c : Code} {st : St} {s : Shared} {P : Result → Shared → Prop} (D : Rep V st s)
    (H : ∀ sk, (run V n A c Fin (DD c) st sk).Fine V (postC V.prog V.w A P) (postE P)) : codeAny (model V.prog V.w) A c P s := by
  refine y_code _ _ _ _ _ _ ?_
  rw [← DD_eq]
  exact run_sound O n A c Fin (DD c) st s _ _ H D

/-- a run that ends well, read by its sum -/
theorem fine_of_sum {V : Cfg} {α : Type} {o : Out α} {ks : List Nat} {a : α} {l : List (Option (Addr × Obj))} {m : Nat × Nat × Nat × Nat × List (Addr × Obj) × List GenState} {hs : List Nat} {ps : List Dsc}
    (h : o.sum ks = some (a, l, m, hs, ps, o.rt)) (hp : AllP ps) {Q : α → Shared → Prop} {E : Value → Shared → Prop}
    (hq : ∀ st s, Rep V st s → ks.map (st.news[·]?) = l → (st.b, st.t, st.m, st.i, st.ch, st.gl) = m → Q a s) : o.Fine V Q E := by
  cases o with
  | stop => cases h
  | err => cases h
  | yld => cases h
  | ok a' st =>
    unfold Out.sum at h
    injection h with h
    injection h with h1 h
    injection h with h2 h
    injection h with h3 h
    injection h with h4 h
    injection h with h5 h6
    subst h1
    exact ⟨eqOk_of h6 (h5 ▸ hp), fun s D => hq st s D h2 h3⟩

theorem sm0_ok (V : Cfg) (h : V.sm = sm0) : SmEx V ∧ SmOk V := by
  refine ⟨fun j A c st r st' e => ?_, fun j A c st r st' e => ?_⟩ <;> (rw [h] at e; cases e)

theorem K_low (w : World) : (KK w).all (fun p => Nat.blt p.1 358) = true := by kernel_rfl
theorem lookup_mem {K : Frag} {a : Nat} {o : Obj} (h : K.lookup a = some o) : (a, o) ∈ K := by
  induction K with
  | nil => cases h
  | cons p r ih =>
    obtain ⟨b, x⟩ := p
    rw [List.lookup_cons] at h
    cases q : (a == b) with
    | true =>
      rw [q] at h
      have : a = b := by simpa using q
      subst this
      injection h with h
      subst h
      exact List.mem_cons_self ..
    | false =>
      rw [q] at h
      exact List.mem_cons_of_mem _ (ih h)
theorem K_lt {w : World} {a : Nat} {o : Obj} (h : (KK w).lookup a = some o) : a < 358 := by
  have := List.all_eq_true.mp (K_low w) _ (lookup_mem h)
  exact Nat.le_of_ble_eq_true this

/-- the written part but for the two tables that grow -/
noncomputable def KF (w : World) (h : Heap) : Prop := ∀ a o, offB [147, 155] a = false → (KK w).lookup a = some o → h.get? a = some o

theorem VV_ok {w : World} {h₀ : Heap} {g : Array GenState} {d : Drawn} {os : OsState} (hK : KF w h₀) : (VV w h₀ g d os sm0).Ok :=
  ⟨fun A c s P H => TX_ok PP _ A c s P H, fun A c P s H => xDy_ok PP w A c P s H, hK, (sm0_ok _ rfl).1, (sm0_ok _ rfl).2⟩

/-- one object is turned, all others stand -/
structure Chg (L : Nat) (o : Obj) (s s' : Shared) (n : Nat) (t : Nat) : Prop where
  self : s'.heap.get? L = some o
  keep : ∀ a oa, a ≠ L → s.heap.get? a = some oa → s'.heap.get? a = some oa
  size : s'.heap.objs.size = s.heap.objs.size + n
  gens : s'.gens = s.gens
  dr : s'.drawn = s.drawn
  os : s'.os = s.os
  tk : s'.toks = t
theorem Chg.trans {L : Nat} {o o' : Obj} {s s' s'' : Shared} {n n' t t' : Nat} (x : Chg L o s s' n t) (y : Chg L o' s' s'' n' t') : Chg L o' s s'' (n + n') t' :=
  ⟨y.self, fun a oa h e => y.keep a oa h (x.keep a oa h e), by rw [y.size, x.size, Nat.add_assoc], y.gens.trans x.gens, y.dr.trans x.dr, y.os.trans x.os, y.tk⟩

/-- the start: one own object above all that is written -/
theorem rep_one {w : World} {s : Shared} {L : Nat} {o : Obj} (hL : s.heap.get? L = some o) (hz : 358 ≤ s.heap.objs.size) (hs : List Nat) :
    Rep (VV w (hideAll s.heap [L]) s.gens s.drawn s.os sm0) ⟨s.heap.objs.size - 358, s.toks, [(L, o)], 358, 0, hs, [], [], []⟩ s := by
  refine ⟨⟨fun b ob e _ => of_hideAll _ e, fun _ h => (nomatch h), List.nodup_nil, fun p hp => ?_, ?_⟩, ?_, (List.append_nil _).symm, rfl, rfl, rfl⟩
  · obtain rfl := List.mem_singleton.mp hp
    exact ⟨hL, hideAll_none _ (List.mem_singleton.mpr rfl)⟩
  · exact List.pairwise_singleton ..
  · show s.heap.objs.size = s.heap.objs.size - 358 + 358
    omega
theorem kf_hide {w : World} {h : Heap} {L : Nat} (hK : KF w h) (hL : 358 ≤ L) : KF w (hideAll h [L]) := fun a o ho e =>
  hideAll_get _ (hK a o ho e) (by
    intro z
    have q1 : a = L := List.mem_singleton.mp z
    have q2 := K_lt e
    exact absurd hL (by rw [← q1]; exact Nat.not_le.mpr q2))

theorem chg_of {w : World} {s s' : Shared} {L i : Nat} {o : Obj} {st : St} (D : Rep (VV w (hideAll s.heap [L]) s.gens s.drawn s.os sm0) st s') (hi : st.news[i]? = some (L, o)) {b t m k : Nat}
    (hm : (st.b, st.t, st.m, st.i, st.ch, st.gl) = (b, t, m, k, [], [])) (hb : b = s.heap.objs.size - 358) (ht : t = s.toks) (hz : 358 ≤ s.heap.objs.size) (hlt : 358 ≤ m) : Chg L o s s' (m - 358) (s.toks + k) := by
  injection hm with m1 hm
  injection hm with m2 hm
  injection hm with m3 hm
  injection hm with m4 hm
  injection hm with m5 m6
  refine ⟨D.mem.at i L o hi, fun a oa ha e => ?_, ?_, ?_, D.dr, D.os, ?_⟩
  · have e' : (hideAll s.heap [L]).get? a = some oa := hideAll_get _ e (by simpa using ha)
    exact D.mem.keep a oa e' (by rw [m5]; simp [away])
  · have := D.size
    omega
  · have z := D.gens
    rw [m6, List.append_nil] at z
    exact Array.ext' z
  · have := D.tk
    rw [this, m2, ht, m4]
/-- what the loop over the figures leaves of the tokens: the count, the rest's, the figures' -/
noncomputable def lpT : Bool → List Nat → Bool → Nat → Nat → Nat → Nat × Nat × Nat
  | _, [], e, t, tv, td => (t + (if e then 2 else 4), tv, td)
  | true, _ :: r, e, t, _, _ => lpT false r e (t + 10) (t + 8) (t + 5)
  | false, _ :: r, e, t, _, _ => lpT false r e (t + 11) (t + 9) (t + 6)

noncomputable def NoDigit : List Nat → Prop
  | [] => True
  | x :: _ => Unicode.isDigit x = false

theorem kf_keep {w : World} {s s' : Shared} {L : Nat} (hK : KF w s.heap) (hL : 358 ≤ L) (k : ∀ a oa, a ≠ L → s.heap.get? a = some oa → s'.heap.get? a = some oa) : KF w s'.heap := fun a o ho e =>
  k a o (fun z => by have q2 := K_lt e; omega) (hK a o ho e)

section
variable (w : World) (f₁ f₂ f₃ : Bool) (A : Around) (L : Nat) (h₁ h₂ h₃ : Int) (k₁ k₂ k₃ : Nat) (X : Value) (beh : List Nat)
theorem while_ok (hb : NoDigit beh) (hbl : beh.length ≤ 1000000) (hL : 358 ≤ L) : ∀ (fig D : List Nat) (tv td : Nat) (s : Shared) (P : Result → Shared → Prop), (∀ x ∈ fig, Unicode.isDigit x = true) → fig.length + D.length ≤ 1000000 →
    358 ≤ s.heap.objs.size → KF (wF w f₁ f₂ f₃) s.heap → s.heap.get? L = some (gsFrame h₁ h₂ h₃ k₁ k₂ k₃ (fig ++ beh) D tv td X) →
    (∀ s', Chg L (gsFrame h₁ h₂ h₃ k₁ k₂ k₃ beh (D ++ fig) (lpT D.isEmpty fig beh.isEmpty s.toks tv td).2.1 (lpT D.isEmpty fig beh.isEmpty s.toks tv td).2.2 X) s s' fig.length (lpT D.isEmpty fig beh.isEmpty s.toks tv td).1 → P (.ok .next) s') →
    codeAny (model PP (wF w f₁ f₂ f₃)) A (lp w f₁ f₂ f₃ L) P s := by
  intro fig
  induction fig with
  | nil =>
    intro D tv td s P hd hl hz hK hs hP
    have O := VV_ok (g := s.gens) (d := s.drawn) (os := s.os) (kf_hide hK hL)
    rw [List.append_nil] at hP
    cases beh with
    | nil =>
      refine codeAny_run O (n := 300) (rep_one hs hz hWe) fun sk => fine_of_sum (wl_end w f₁ f₂ f₃ _ _ _ _ A _ _ L h₁ h₂ h₃ k₁ k₂ k₃ tv td X sk D) ⟨(⟨by decide, by decide⟩ : (0 : Int) ≤ (([] : List Nat).length : Nat) ∧ ((([] : List Nat).length : Nat) : Int) < 2 ^ 63), trivial⟩ fun st s' D' hn hm => ?_
      have z := chg_of (i := 0) D' (by simpa using hn) hm rfl rfl hz (by decide)
      exact hP s' z
    | cons x r =>
      refine codeAny_run O (n := 300) (rep_one hs hz hWn) fun sk => fine_of_sum (wl_stop w f₁ f₂ f₃ _ _ _ _ A _ _ L h₁ h₂ h₃ k₁ k₂ k₃ tv td X sk x r D) ⟨?_, ?_, trivial⟩ fun st s' D' hn hm => ?_
      · have hb' : Unicode.isDigit x = false := hb
        show (tS [x]).cps.all Unicode.isDigit = false
        simp [hb']
      · show (0 : Int) ≤ ((x :: r).length : Nat) ∧ (((x :: r).length : Nat) : Int) < 2 ^ 63
        constructor <;> simp only [List.length_cons] at hbl ⊢ <;> omega
      · have z := chg_of (i := 0) D' (by simpa using hn) hm rfl rfl hz (by decide)
        exact hP s' z
  | cons x r ih =>
    intro D tv td s P hd hl hz hK hs hP
    have O := VV_ok (g := s.gens) (d := s.drawn) (os := s.os) (kf_hide hK hL)
    have hx : Unicode.isDigit x = true := hd x (List.mem_cons_self ..)
    have hr : ∀ y ∈ r, Unicode.isDigit y = true := fun y hy => hd y (List.mem_cons_of_mem _ hy)
    have hlen : (r ++ beh).length ≤ sizeLine := by
      show (r ++ beh).length ≤ 2 ^ 24
      simp only [List.length_append, List.length_cons] at hl ⊢
      omega
    have hlen2 : (0 : Int) ≤ ((x :: (r ++ beh)).length : Nat) ∧ (((x :: (r ++ beh)).length : Nat) : Int) < 2 ^ 63 := by
      have : (r ++ beh).length ≤ 2 ^ 24 := hlen
      simp only [List.length_cons]
      constructor <;> omega
    have next : ∀ (D' : List Nat) (tv' td' : Nat) (q : Nat) (s' : Shared), D' ≠ [] → D'.length = D.length + 1 → Chg L (gsFrame h₁ h₂ h₃ k₁ k₂ k₃ (r ++ beh) D' tv' td' X) s s' 1 q → D' ++ r = D ++ x :: r →
        lpT false r beh.isEmpty q tv' td' = lpT D.isEmpty (x :: r) beh.isEmpty s.toks tv td → codeAny (model PP (wF w f₁ f₂ f₃)) A (lp w f₁ f₂ f₃ L) P s' := by
      intro D' tv' td' q s' hD hDl C he hT
      have hE : D'.isEmpty = false := by cases D' with | nil => exact absurd rfl hD | cons => rfl
      refine ih D' tv' td' s' P hr (by simp only [List.length_cons] at hl; omega) (by rw [C.size]; omega) (kf_keep hK hL C.keep) C.self fun s'' C' => hP s'' ?_
      rw [C.tk, hE, hT, he] at C'
      have z := C.trans C'
      rw [Nat.add_comm 1 r.length] at z
      exact z
    cases D with
    | nil =>
      refine codeAny_run O (n := 300) (rep_one hs hz hW0) fun sk => fine_of_sum (wl_first w f₁ f₂ f₃ _ _ _ _ A _ _ L h₁ h₂ h₃ k₁ k₂ k₃ tv td X sk x (r ++ beh)) ⟨hlen, ⟨by simp, by simp [hx]⟩, hlen2, trivial⟩ fun st s' D' hn hm => ?_
      have z := chg_of (i := 1) D' (by simpa using hn) hm rfl rfl hz (by decide)
      exact ⟨rfl, next [x] _ _ _ s' (by simp) rfl z rfl rfl⟩
    | cons y ds =>
      refine codeAny_run O (n := 300) (rep_one hs hz hW1) fun sk => fine_of_sum (wl_turn w f₁ f₂ f₃ _ _ _ _ A _ _ L h₁ h₂ h₃ k₁ k₂ k₃ tv td X sk x y (r ++ beh) ds) ⟨hlen, ⟨by simp [Str.length], by simp [Str.length], ?_⟩, ⟨by simp, by simp [hx]⟩, hlen2, trivial⟩ fun st s' D' hn hm => ?_
      · show (y :: ds).length + 1 ≤ 2 ^ 24
        simp only [List.length_cons] at hl ⊢
        omega
      · have z := chg_of (i := 1) D' (by simpa using hn) hm rfl rfl hz (by decide)
        exact ⟨rfl, next (y :: ds ++ [x]) _ _ _ s' (by simp) (by simp) z (by simp) rfl⟩
end
end Mine

namespace Mine

theorem mem_graft {h₀ h h' : Heap} {chg news : List (Addr × Obj)} (D : Mem h₀ h chg news) {k : Nat} {L : Addr} {o o' : Obj} (hi : news[k]? = some (L, o))
    (hs : h'.get? L = some o') (hk : ∀ a oa, a ≠ L → h.get? a = some oa → h'.get? a = some oa) : Mem h₀ h' chg (news.set k (L, o')) := by
  have sp := pairwise_split hi
  have z := D.nw (L, o) (List.mem_of_getElem? hi)
  have ord' := D.ord
  rw [sp, List.map_append, List.map_cons] at ord'
  have p1 : ∀ p ∈ news.take k, p.1 ≠ L := fun p hp => Nat.ne_of_gt ((List.pairwise_append.mp ord').2.2 p.1 (List.mem_map_of_mem hp) L (.head _))
  have p2 : ∀ p ∈ news.drop (k + 1), p.1 ≠ L := fun p hp => Nat.ne_of_lt ((List.pairwise_cons.mp (List.pairwise_append.mp ord').2.1).1 p.1 (List.mem_map_of_mem hp))
  have e : news.set k (L, o') = news.take k ++ (L, o') :: news.drop (k + 1) := by
    obtain ⟨hl, _⟩ := List.getElem?_eq_some_iff.mp hi
    exact List.set_eq_take_append_cons_drop.trans (if_pos hl)
  have ne : ∀ b ob, h₀.get? b = some ob → b ≠ L := fun b ob e' z' => by subst z'; rw [e'] at z; cases z.2
  refine ⟨fun b ob e' q => hk b ob (ne b ob e') (D.keep b ob e' q), fun p hp => ?_, D.cd, fun p hp => ?_, ?_⟩
  · obtain ⟨ps, e'⟩ := D.oldTable hp
    exact ⟨hk _ _ (ne p.1 _ e') (D.ch p hp).1, (D.ch p hp).2⟩
  · rw [e] at hp
    rcases List.mem_append.mp hp with hp | hp
    · have y := D.nw p (by rw [sp]; exact List.mem_append.mpr (.inl hp))
      exact ⟨hk _ _ (p1 p hp) y.1, y.2⟩
    · rcases List.mem_cons.mp hp with rfl | hp
      · exact ⟨hs, z.2⟩
      · have y := D.nw p (by rw [sp]; exact List.mem_append.mpr (.inr (.tail _ hp)))
        exact ⟨hk _ _ (p2 p hp) y.1, y.2⟩
  · rw [e, List.map_append, List.map_cons]; exact ord'

/-- the frame of get_section, read -/
noncomputable def readFr (o : Obj) : Option ((Int × Nat × Str × Nat) × (Int × Nat × Value) × (Int × Nat × Nat)) := match o with
  | ⟨cls, dict, data, slots⟩ => match cls with
    | .type n => match decide (n = "frame") with
      | false => none
      | true => match dict with
        | some _ => none
        | none => match slots with
          | ⟨sl⟩ => match sl with
            | _ :: _ => none
            | [] => match data with
              | .dict es nn => match es with
                | ⟨es⟩ => match es with
                  | [⟨h₁, v₁, w₁⟩, ⟨h₂, v₂, X⟩, ⟨h₃, v₃, w₃⟩] => match v₁ with
                    | .str s₁ k₁ => match v₂ with
                      | .str s₂ k₂ => match v₃ with
                        | .str s₃ k₃ => match w₁ with
                          | .str V tv => match w₃ with
                            | .str D td => match decide (nn = 3 ∧ s₁ = Str.ofString "value" ∧ s₂ = Str.ofString "section" ∧ s₃ = Str.ofString "digits") with
                              | false => none
                              | true => match D with
                                | ⟨dc⟩ => match dc with
                                  | ⟨dl⟩ => match dl with
                                    | [] => some ((h₁, k₁, V, tv), (h₂, k₂, X), (h₃, k₃, td))
                                    | _ :: _ => none
                            | _ => none
                          | _ => none
                        | _ => none
                      | _ => none
                    | _ => none
                  | _ => none
              | _ => none
    | _ => none
theorem readFr_eq {o : Obj} {r} (h : readFr o = some r) {l : List Nat} (hl : r.1.2.2.1.cps.toList = l) : o = gsFrame r.1.1 r.2.1.1 r.2.2.1 r.1.2.1 r.2.1.2.1 r.2.2.2.1 l [] r.1.2.2.2 r.2.2.2.2 r.2.1.2.2 := by
  unfold readFr at h
  repeat' (split at h <;> try (cases h; done))
  obtain rfl := of_decide_eq_true ‹decide (_ = "frame") = true›
  obtain ⟨rfl, rfl, rfl, rfl⟩ := of_decide_eq_true ‹decide (_ ∧ _ ∧ _ ∧ _) = true›
  injection h with h
  subst h
  subst hl
  rfl

/-- what the engine must not walk: the loop over the figures -/
noncomputable def smWith (lpf : Nat → Code) (fig beh : List Nat) : SmTy := fun j _ c st => match j with
  | 0 => match st with
    | ⟨b, t, news, m, i, hs, eq, ch, gl⟩ => match hs with
      | [] => none
      | k :: hs => match news[k]? with
        | none => none
        | some p => match readFr p.2 with
          | none => none
          | some r => match ch.all (fun q => offB [147, 155] q.1) with
            | false => none
            | true => some (.ok .next, ⟨b + fig.length, (lpT true fig beh.isEmpty (t + i) r.1.2.2.2 r.2.2.2.2).1,
              news.set k (p.1, gsFrame r.1.1 r.2.1.1 r.2.2.1 r.1.2.1 r.2.1.2.1 r.2.2.2.1 beh fig (lpT true fig beh.isEmpty (t + i) r.1.2.2.2 r.2.2.2.2).2.1 (lpT true fig beh.isEmpty (t + i) r.1.2.2.2 r.2.2.2.2).2.2 r.2.1.2.2), m, 0, hs,
              .pr (.code c (lpf p.1)) :: .pr (.eq r.1.2.2.1 (tS (fig ++ beh))) :: .pr (.le 358 p.1) :: .pr (.le 358 (b + m)) :: eq, ch, gl⟩)
  | _ => none

noncomputable def smW (w : World) (f₁ f₂ f₃ : Bool) (fig beh : List Nat) : SmTy := smWith (fun L => lp w f₁ f₂ f₃ L) fig beh
theorem away_off {ch : List (Addr × Obj)} {a : Nat} (h : ch.all (fun q => offB [147, 155] q.1) = true) (ha : offB [147, 155] a = false) : away ch a = true := by
  refine List.all_eq_true.mpr fun p hp => ?_
  have z := List.all_eq_true.mp h p hp
  cases q : Nat.beq p.1 a with
  | false => rfl
  | true =>
    have e : p.1 = a := Nat.eq_of_beq_eq_true q
    rw [e, ha] at z
    cases z
theorem smW_ok {w : World} {f₁ f₂ f₃ : Bool} {fig beh : List Nat} {h₀ : Heap} {g : Array GenState} {d : Drawn} {os : OsState}
    (hK : KF (wF w f₁ f₂ f₃) h₀) (hd : ∀ x ∈ fig, Unicode.isDigit x = true) (hb : NoDigit beh) (hl : fig.length ≤ 1000000) (hbl : beh.length ≤ 1000000) :
    (VV (wF w f₁ f₂ f₃) h₀ g d os (smW w f₁ f₂ f₃ fig beh)).Ok := by
  refine ⟨fun A c s P H => TX_ok PP _ A c s P H, fun A c P s H => xDy_ok PP _ A c P s H, hK, ?_, ?_⟩
  · intro j A c st r st' e
    change smWith (fun L => lp w f₁ f₂ f₃ L) fig beh j A c st = _ at e
    obtain ⟨b, t, news, m, i, hs, eq, ch, gl⟩ := st
    unfold smWith at e
    cases j with
    | succ => cases e
    | zero =>
      cases hs with
      | nil => cases e
      | cons k hs =>
        dsimp only at e
        cases q : news[k]? with
        | none => rw [q] at e; cases e
        | some p =>
          rw [q] at e
          dsimp only at e
          cases q2 : readFr p.2 with
          | none => rw [q2] at e; cases e
          | some rr =>
            rw [q2] at e
            dsimp only at e
            cases q3 : ch.all (fun q => offB [147, 155] q.1) with
            | false => rw [q3] at e; cases e
            | true =>
              rw [q3] at e
              injection e with e
              injection e with e1 e2
              subst e2
              exact fun z => z.2.2.2.2
  · intro j A c st r st' e he s D R hR
    change smWith (fun L => lp w f₁ f₂ f₃ L) fig beh j A c st = _ at e
    obtain ⟨b, t, news, m, i, hs, eq, ch, gl⟩ := st
    unfold smWith at e
    cases j with
    | succ => cases e
    | zero =>
      cases hs with
      | nil => cases e
      | cons k hs =>
        dsimp only at e
        cases q : news[k]? with
        | none => rw [q] at e; cases e
        | some p =>
          rw [q] at e
          dsimp only at e
          cases q2 : readFr p.2 with
          | none => rw [q2] at e; cases e
          | some rr =>
            rw [q2] at e
            dsimp only at e
            cases hch : ch.all (fun q => offB [147, 155] q.1) with
            | false => rw [hch] at e; cases e
            | true =>
            rw [hch] at e
            injection e with e
            injection e with e1 e2
            subst e2
            subst e1
            obtain ⟨hcode, htxt, hp, hz, -⟩ := he
            obtain ⟨L, o⟩ := p
            change c = lp w f₁ f₂ f₃ L at hcode
            change rr.1.2.2.1.cps.toList = fig ++ beh at htxt
            change 358 ≤ L at hp
            change 358 ≤ b + m at hz
            dsimp only at q q2
            have hobj := readFr_eq q2 htxt
            subst hcode
            have hself := D.mem.at k L o q
            rw [hobj] at hself
            have hsz : s.heap.objs.size = b + m := D.size
            have htk : s.toks = t + i := D.tk
            have hKs : KF (wF w f₁ f₂ f₃) s.heap := fun a oa ho e => D.mem.keep a oa (hK a oa ho e) (by show (hasCls oa || away ch a) = true; rw [away_off hch ho, Bool.or_true])
            refine while_ok w f₁ f₂ f₃ A L _ _ _ _ _ _ _ beh hb hbl hp fig [] _ _ s R hd (by simpa using hl) (by omega) hKs hself fun s' C => ?_
            refine hR s' ⟨?_, ?_, (congrArg Array.toList C.gens).trans D.gens, C.dr.trans D.dr, ?_, C.os.trans D.os⟩
            · have z := mem_graft D.mem q C.self C.keep
              rw [htk] at z
              exact z
            · show s'.heap.objs.size = b + fig.length + m
              rw [C.size, hsz]; omega
            · have z := C.tk
              rw [htk] at z
              exact z
end Mine

namespace Mine
section
open PySem.NumText
theorem digs_nat (m : Nat) : digs (m : Int) = (Nat.toDigits 10 m).map Char.toNat := KIN.signs_num m
theorem isDigit_of {c : Nat} (h : 48 ≤ c ∧ c ≤ 57) : Unicode.isDigit c = true := by
  have : c = 48 ∨ c = 49 ∨ c = 50 ∨ c = 51 ∨ c = 52 ∨ c = 53 ∨ c = 54 ∨ c = 55 ∨ c = 56 ∨ c = 57 := by omega
  rcases this with rfl | rfl | rfl | rfl | rfl | rfl | rfl | rfl | rfl | rfl <;> decide +kernel
theorem digs_all (m : Nat) : AllDigits (digs (m : Int)) := by
  rw [digs_nat]
  intro c hc
  obtain ⟨ch, hch, rfl⟩ := List.mem_map.mp hc
  have := Nat.isDigit_of_mem_toDigits (b := 10) (by decide) (by decide) hch
  simp only [Char.isDigit, Bool.and_eq_true, decide_eq_true_eq] at this
  exact ⟨this.1, this.2⟩
theorem digs_ne (m : Nat) : digs (m : Int) ≠ [] := by
  rw [digs_nat]
  intro h
  have := Nat.length_toDigits_pos (b := 10) (n := m)
  rw [List.map_eq_nil_iff.mp h] at this
  exact absurd this (by decide)
theorem digs_len {m : Nat} (h : m < 10 ^ 30) : (digs (m : Int)).length ≤ 30 := by
  rw [digs_nat, List.length_map]
  exact digits10_le (by decide) h
theorem val_rep (k : Nat) (l : List Nat) : digitsVal (List.replicate k 48 ++ l) = digitsVal l := by
  induction k with
  | zero => rfl
  | succ k ih =>
    rw [List.replicate_succ, List.cons_append, digitsVal_zero]
    exact ih
theorem int_figs (k m : Nat) (hk : k ≤ 2) (h : m < 10 ^ 30) : PySem.intText? (tS (List.replicate k 48 ++ digs (m : Int))) = some (m : Int) := by
  have ha : AllDigits (List.replicate k 48 ++ digs (m : Int)) := by
    intro c hc
    rcases List.mem_append.mp hc with hc | hc
    · have := (List.mem_replicate.mp hc).2
      subst this; decide
    · exact digs_all m c hc
  have := intText_digits (x := tS (List.replicate k 48 ++ digs (m : Int))) ha (by
    intro z
    have := (List.append_eq_nil_iff.mp z).2
    exact digs_ne m this) (by
    show (List.replicate k 48 ++ digs (m : Int)).length ≤ 4300
    rw [List.length_append, List.length_replicate]
    have := digs_len h
    omega)
  rw [this]
  show some ((digitsVal (List.replicate k 48 ++ digs (m : Int)) : Nat) : Int) = _
  rw [val_rep, digs_nat, KIN.val_back]
theorem digs_zero : digs 0 = [48] := by decide +kernel
theorem digs_head {m : Nat} (hm : 0 < m) : ∃ c r, digs (m : Int) = c :: r ∧ 49 ≤ c ∧ c ≤ 57 := by
  have ha := digs_all m
  have hv : digitsVal (digs (m : Int)) = m := by rw [digs_nat, KIN.val_back]
  have hl : (Nat.toDigits 10 m).length = (digs (m : Int)).length := by rw [digs_nat, List.length_map]
  have ht := toDigits_all _ ha
  rw [hv] at ht
  cases e : digs (m : Int) with
  | nil => exact absurd e (digs_ne m)
  | cons c r =>
    rw [e] at ha hv hl ht
    have hc := ha.head
    by_cases h48 : c = 48
    · exfalso
      subst h48
      rw [List.dropWhile_cons, if_pos (by decide)] at ht
      have hle : ((r.dropWhile (· == 48)).length) ≤ r.length := len_dropWhile _ r
      cases q : r.dropWhile (· == 48) with
      | nil =>
        rw [q] at ht
        rw [ht] at hl
        have hr : r = [] := by
          simp only [List.length_cons, List.length_nil] at hl
          exact List.length_eq_zero_iff.mp (by omega)
        subst hr
        have : digitsVal [48] = 0 := by decide
        omega
      | cons d t =>
        rw [q] at ht hle
        rw [ht] at hl
        simp only [List.length_map, List.length_cons] at hl hle
        omega
    · exact ⟨c, r, rfl, by omega, hc.2⟩
end
end Mine

namespace Mine
/-- a shorter ledger -/
theorem mem_sub {h₀ h : Heap} {chg news news' : List (Addr × Obj)} (D : Mem h₀ h chg news) (hs : news'.Sublist news) : Mem h₀ h chg news' :=
  ⟨D.keep, D.ch, D.cd, fun p hp => D.nw p (hs.subset hp), D.ord.sublist (hs.map _)⟩
/-- the same state, otherwise counted, with a shorter ledger -/
theorem rep_move {V : Cfg} {st st' : St} {s : Shared} (D : Rep V st s) (hn : st'.news.Sublist st.news) (hb : st'.b + st'.m = st.b + st.m) (ht : st'.t + st'.i = st.t + st.i) (hc : st'.ch = st.ch) (hg : st'.gl = st.gl) : Rep V st' s :=
  ⟨by rw [hc]; exact mem_sub D.mem hn, by rw [hb]; exact D.size, by rw [hg]; exact D.gens, D.dr, by rw [ht]; exact D.tk, D.os⟩
end Mine

namespace Mine
/-- what of the law's frame does not matter -/
structure FrD where
  h : Nat → Int
  k : Nat → Nat
  sc : Value
  sec : Value
  told : Value
  x : Int
  n : Int
  kk : Int
  fig : List Nat
  beh : List Nat
  rest : List Nat
  wrong : List Nat
noncomputable def ent (F : FrD) (i : Nat) (n : String) (v : Value) : DictEntry := ⟨F.h i, .str (Str.ofString n) (F.k i), v⟩
/-- the law's frame, all its names bound -/
noncomputable def lawFr (F : FrD) (bk : Value) : Obj :=
  { cls := .type "frame", slots := #[some (.ref 356), some (.ref 3), none, some bk, none, some (.ref 357), some (.ref 0)],
    data := .dict #[ent F 0 "script" F.sc, ent F 1 "x" (.int F.x (F.k 10)), ent F 2 "size" (.int F.n (F.k 11)), ent F 3 "noughts" (.int F.kk (F.k 12)), ent F 4 "figures" (.str (tS F.fig) (F.k 13)), ent F 5 "behind" (.str (tS F.beh) (F.k 14)),
    ent F 6 "section" F.sec, ent F 7 "rest" (.str (tS F.rest) (F.k 15)), ent F 8 "told" F.told, ent F 9 "wrong" (.str (tS F.wrong) (F.k 16))] 10 }
/-- the law's frame at its first number -/
noncomputable def lawFrA (F : FrD) : Obj :=
  { cls := .type "frame", data := .dict #[ent F 0 "script" F.sc, ent F 1 "x" (.int F.x (F.k 10)), ent F 2 "size" (.int F.n (F.k 11)), ent F 3 "noughts" (.int F.kk (F.k 12)), ent F 4 "figures" (.str (tS F.fig) (F.k 13))] 5 }
noncomputable def lawFr0 (F : FrD) : Obj := { cls := .type "frame", data := .dict #[ent F 0 "script" F.sc] 1 }
noncomputable def FrD.turn (F : FrD) (beh wrong : List Nat) (sec told : Value) (tb t15 t16 : Nat) : FrD :=
  { F with beh, rest := beh, wrong, sec, told, k := fun i => match i with | 14 => tb | 15 => t15 | 16 => t16 | i => F.k i }
/-- the frame's names at a new number -/
noncomputable def FrD.num (F : FrD) (x n kk : Int) (fig : List Nat) (k10 k11 k12 k13 : Nat) : FrD :=
  { F with x, n, kk, fig, k := fun i => match i with | 10 => k10 | 11 => k11 | 12 => k12 | 13 => k13 | i => F.k i }
noncomputable def FrD.numA (F : FrD) (P : Params) (x n kk : Int) (fig : List Nat) (k10 k11 k12 k13 k1 k2 k3 k4 : Nat) : FrD :=
  { F with x, n, kk, fig,
           h := fun i => match i with | 1 => PyData.keyHash P (Str.ofString "x") | 2 => PyData.keyHash P (Str.ofString "size") | 3 => PyData.keyHash P (Str.ofString "noughts") | 4 => PyData.keyHash P (Str.ofString "figures") | i => F.h i,
           k := fun i => match i with | 1 => k1 | 2 => k2 | 3 => k3 | 4 => k4 | 10 => k10 | 11 => k11 | 12 => k12 | 13 => k13 | i => F.k i }
noncomputable def FrD.turnA (F : FrD) (P : Params) (beh wrong : List Nat) (sec told : Value) (tb t15 t16 k5 k6 k7 k8 k9 : Nat) : FrD :=
  { F with beh, rest := beh, wrong, sec, told,
           h := fun i => match i with | 5 => PyData.keyHash P (Str.ofString "behind") | 6 => PyData.keyHash P (Str.ofString "section") | 7 => PyData.keyHash P (Str.ofString "rest") | 8 => PyData.keyHash P (Str.ofString "told") | 9 => PyData.keyHash P (Str.ofString "wrong") | i => F.h i,
           k := fun i => match i with | 5 => k5 | 6 => k6 | 7 => k7 | 8 => k8 | 9 => k9 | 14 => tb | 15 => t15 | 16 => t16 | i => F.k i }
noncomputable def forOf : List Stmt → Option (Expr × Expr × List Stmt × List Stmt × List Stmt × List Stmt)
  | [] => none
  | s :: r => match s with
    | .For t e b o _ => some (t, e, b, o, [], r)
    | s => match forOf r with
      | some (t, e, b, o, pre, post) => some (t, e, b, o, s :: pre, post)
      | none => none
noncomputable def lawEnv (K : Frag) (L : Nat) : Env := callEnv (fdIn K 357) L 357
noncomputable def lawBody (K : Frag) : List Stmt := match (fdIn K 357).body with
  | .stmts b => b
  | _ => []
noncomputable def outerIn (K : Frag) : Expr × Expr × List Stmt × List Stmt × List Stmt × List Stmt := (forOf (lawBody K)).getD default
noncomputable def innerIn (K : Frag) : Expr × Expr × List Stmt × List Stmt × List Stmt × List Stmt := (forOf (outerIn K).2.2.1).getD default
noncomputable def outerC (K : Frag) (L IT : Nat) : Code := .forLoop (outerIn K).1 (.ref IT) (outerIn K).2.2.1 (outerIn K).2.2.2.1 (lawEnv K L)
noncomputable def innerC (K : Frag) (L IT : Nat) : Code := .forLoop (innerIn K).1 (.ref IT) (innerIn K).2.2.1 (innerIn K).2.2.2.1 (lawEnv K L)
noncomputable def AI (K : Frag) (L : Nat) : Around := { handled := none, depth := 302, frames := some [lawEnv K L], guards := some [], units := 7 }
section
variable (w : World) (f₁ f₂ f₃ : Bool) (h₀ : Heap) (g : Array GenState) (d : Drawn) (os : OsState)
noncomputable abbrev VT (fig beh : List Nat) : Cfg := VV (wF w f₁ f₂ f₃) h₀ g d os (smW w f₁ f₂ f₃ fig beh)
noncomputable abbrev KT : Frag := KK (wF w f₁ f₂ f₃)
noncomputable def innerRun (fig beh : List Nat) (L IT : Nat) (v : Value) (st : St) (sk : Sk) : Out Fin :=
  runPh (run (VT w f₁ f₂ f₃ h₀ g d os fig beh) 8000) (AI (KT w f₁ f₂ f₃) L) (innerC (KT w f₁ f₂ f₃) L IT) (forBodyPh (AI (KT w f₁ f₂ f₃) L) (innerIn (KT w f₁ f₂ f₃)).1 (.ref IT) (innerIn (KT w f₁ f₂ f₃)).2.2.1 (innerIn (KT w f₁ f₂ f₃)).2.2.2.1 (lawEnv (KT w f₁ f₂ f₃) L) v) st sk
/-- the head of an outer turn: the number's name, the three assignments, the six rests and their iterator -/
noncomputable def headT (K : Frag) (L OIT : Nat) (v : Value) : Sem Value :=
  xOwnedTuple (outerIn K).1 (.ref OIT) v >>= fun _ => xAssign (outerIn K).1 (lawEnv K L) v >>= fun _ => xExecs (innerIn K).2.2.2.2.1 (lawEnv K L) >>= fun f => match f with
    | .next => xEval (innerIn K).2.1 (lawEnv K L) >>= fun x => xPyIter x
    | _ => .unsupported ""
noncomputable def headRun (L OIT : Nat) (v : Value) (st : St) (sk : Sk) : Out Value :=
  run (VT w f₁ f₂ f₃ h₀ g d os [] []) 4000 (AI (KT w f₁ f₂ f₃) L) (outerC (KT w f₁ f₂ f₃) L OIT) Value (headT (KT w f₁ f₂ f₃) L OIT v) st sk
/-- what comes behind the outer loop -/
noncomputable def lastRun (A : Around) (L : Nat) (st : St) (sk : Sk) : Out Flow :=
  run (VT w f₁ f₂ f₃ h₀ g d os [] []) 4000 A (.func (lawBody (KT w f₁ f₂ f₃)) (lawEnv (KT w f₁ f₂ f₃) L)) Flow (xExecs (outerIn (KT w f₁ f₂ f₃)).2.2.2.2.2 (lawEnv (KT w f₁ f₂ f₃) L)) st sk
noncomputable def tabs (q₁ q₂ : Nat) : List (Addr × Obj) := [(147, X.tableObj #[.int 41 0, .int 23 0, .ref (q₁ + 358)]), (155, X.tableObj #[.int 45 0, .int 19 0, .ref (q₂ + 358)])]
noncomputable def tabs0 : List (Addr × Obj) := [(147, X.tableObj #[]), (155, X.tableObj #[])]
end
end Mine

namespace Mine
noncomputable def forPos : List Stmt → Pos
  | [] => default
  | s :: r => match s with
    | .For _ _ _ _ p => p
    | _ => forPos r
/-- the iterator of a for statement -/
noncomputable def forT (e : Expr) (p : Pos) (env : Env) : Sem Value := standAt p >>= fun _ => xEval e env >>= fun x => standAt e.pos >>= fun _ => xPyIter x
section
variable (w : World) (f₁ f₂ f₃ : Bool) (h₀ : Heap) (g : Array GenState) (d : Drawn) (os : OsState)
/-- the head of an outer turn: the number's name, the three assignments, the six rests and their iterator -/
noncomputable def headU (K : Frag) (L OIT : Nat) (v : Value) : Sem Value :=
  xOwnedTuple (outerIn K).1 (.ref OIT) v >>= fun _ => xAssign (outerIn K).1 (lawEnv K L) v >>= fun _ => xExecs (innerIn K).2.2.2.2.1 (lawEnv K L) >>= fun f => match f with
    | .next => forT (innerIn K).2.1 (forPos (outerIn K).2.2.1) (lawEnv K L)
    | _ => .unsupported ""
noncomputable def headRn (L OIT : Nat) (v : Value) (st : St) (sk : Sk) : Out Value :=
  run (VT w f₁ f₂ f₃ h₀ g d os [] []) 4000 (AI (KT w f₁ f₂ f₃) L) (outerC (KT w f₁ f₂ f₃) L OIT) Value (headU (KT w f₁ f₂ f₃) L OIT v) st sk
end
end Mine

namespace Mine
theorem line_eq : sizeLine = 16777216 := by decide
theorem len_tS (l : List Nat) : (tS l).length = l.length := rfl
theorem d_add {a b : List Nat} (ha : a ≠ []) (hb : b ≠ []) (h : a.length + b.length ≤ 16777216) : (Dsc.add (tS a) (tS b)).P := by
  refine ⟨?_, ?_, by rw [line_eq]; exact h⟩
  · rw [len_tS]; exact fun e => ha (List.length_eq_zero_iff.mp e)
  · rw [len_tS]; exact fun e => hb (List.length_eq_zero_iff.mp e)
theorem d_size {l : List Nat} (h : l.length ≤ 16777216) : (Dsc.size l).P := by show l.length ≤ sizeLine; rw [line_eq]; exact h
theorem d_str {l : List Nat} (h : l.length ≤ 16777216) : (Dsc.str (tS l)).P := by show l.length ≤ sizeLine; rw [line_eq]; exact h
theorem d_small {l : List Nat} (h : l.length ≤ 16777216) : (Dsc.small (((tS l).length : Nat) : Int)).P := by
  show (0 : Int) ≤ ((l.length : Nat) : Int) ∧ ((l.length : Nat) : Int) < 2 ^ 63
  constructor <;> omega
theorem d_txt {l : List Nat} {n : Int} (h : l.length ≤ 640) (hi : PySem.intText? (tS l) = some n) : (Dsc.txt (tS l)).P := ⟨h, by rw [hi]; rfl⟩
theorem d_diffS {x y : Str} {k k' : Nat} (h : k ≠ k') : (Dsc.diff (.str x k) (.str y k')).P := ⟨fun e => by injection e with _ e; exact h e, rfl⟩
theorem d_diffR {a b : Nat} (h : a ≠ b) : (Dsc.diff (.ref a) (.ref b)).P := ⟨fun e => by injection e with e; exact h e, rfl⟩
theorem d_fmt {n : Nat} {l : List Nat} (h : n ≤ 16777216) (hl : l.length ≤ 16777216) : (Dsc.fmt n l).P := by
  refine ⟨?_, by rw [line_eq]; exact hl⟩
  unfold Builtin.Str.tooLong
  rw [line_eq]
  exact decide_eq_false (by omega)
theorem d_join {a b : List Nat} (h : a.length + b.length ≤ 16777216) : (Dsc.join (tS a) (tS []) (tS b)).P := by
  refine ⟨?_, ?_, ?_⟩
  · unfold Builtin.Str.tooLong
    rw [line_eq]
    refine decide_eq_false ?_
    show ¬ (0 + a.length + 0 + b.length + 0 > 16777216)
    omega
  · show Str.mk ((a.toArray ++ #[]) ++ b.toArray) = Str.mk _
    congr 1
    apply Array.ext'
    simp
  · show ((a ++ []) ++ b).length ≤ sizeLine
    rw [line_eq, List.append_nil, List.length_append]
    exact h
theorem d_dig {x : Nat} (h : Unicode.isDigit x = true) : (Dsc.dig (tS [x])).P := ⟨by simp, by simp [h]⟩
theorem d_nodig {x : Nat} (h : Unicode.isDigit x = false) : (Dsc.nodig (tS [x])).P := by
  show (tS [x]).cps.all Unicode.isDigit = false
  simp [h]
theorem d_ne1 {x y : Nat} (h : x ≠ y) : (Dsc.ne (tS [x]) (tS [y])).P := by
  show [x] ≠ [y]
  simpa using h
theorem d_ne2 {x y z : Nat} {r : List Nat} : (Dsc.ne (tS (x :: y :: r)) (tS [z])).P := by
  show x :: y :: r ≠ [z]
  simp
theorem d_gt {a b : Int} (h : a > b) : (Dsc.gt a b).P := h
theorem d_addr {a b : Nat} (h : a ≠ b) : (Dsc.addr a b).P := h
theorem d_le {a b : Nat} (h : a ≤ b) : (Dsc.le a b).P := h
theorem lpT_ge : ∀ (fig : List Nat) (b e : Bool) (t tv td : Nat), t ≤ (lpT b fig e t tv td).1
  | [], b, e, t, _, _ => by unfold lpT; dsimp only; omega
  | x :: r, true, e, t, tv, td => by
    unfold lpT
    exact Nat.le_trans (by omega) (lpT_ge r false e (t + 10) (t + 8) (t + 5))
  | x :: r, false, e, t, tv, td => by
    unfold lpT
    exact Nat.le_trans (by omega) (lpT_ge r false e (t + 11) (t + 9) (t + 6))
end Mine

namespace Mine
noncomputable def h_BPY : List Nat := [5, 5, 0, 5, 0, 1, 5, 0, 1, 0, 0, 0, 0, 1, 1, 0, 1, 0, 0, 0, 0, 0, 0, 0, 0, 0, 0, 0, 0, 0, 0, 0, 0, 0, 0, 0, 0, 0, 1, 0, 1, 0, 0, 0, 0, 0, 0, 0, 0, 0, 1, 1, 1, 1, 1, 1, 0, 0, 0, 0, 0, 0, 0, 1, 0, 0, 0, 0, 1, 1, 0, 1, 0, 5, 5, 0, 1, 1, 1, 1, 1, 1, 1, 0, 1, 1, 1, 1, 0, 0, 0, 5, 0, 3, 4, 5, 5, 1, 5, 5, 5, 6, 0, 7, 7, 1, 1, 1, 1, 1, 2, 3, 0, 3, 8, 8, 8, 8, 6, 9, 0, 0, 0, 0, 0, 0, 9, 0, 9, 0, 9, 0, 0, 0, 0, 0, 9, 0, 10, 10, 10, 11, 11, 11, 0, 1, 0, 11, 0, 1, 0, 0, 11, 9, 0, 0, 0, 0, 0, 9, 0, 0, 0, 0, 0, 9, 0, 0, 0, 0, 0, 9, 10, 0, 0, 0, 0, 0, 0, 0, 0, 0, 0, 0, 0, 0, 0, 0, 0, 0, 0, 0, 0, 0, 0, 0, 0, 0, 0, 0, 0, 1, 1, 1, 1, 1, 1, 0, 0, 0, 0, 0, 0, 0, 1, 0, 0, 0, 0, 1, 1, 0, 1, 0, 0, 0, 1, 1, 1, 1, 1, 1, 1, 1, 0, 1, 1, 1, 1, 0, 0, 2, 2, 0, 0, 0, 0, 0, 0, 0, 0, 0, 0, 0, 0, 0, 0, 0, 0, 4, 4, 4, 4, 1, 0, 0, 0, 0, 0, 0, 1, 0, 1, 0, 1, 0, 0, 0, 0, 0, 1, 0, 2, 2, 2, 5, 2, 0, 0, 0, 0, 0, 0, 2, 0, 2, 0, 2, 0, 0, 0, 0, 0, 2, 0, 3, 3, 3, 5, 2, 0, 2, 0, 0, 0, 0, 0, 0, 2, 0, 2, 0, 0, 0, 0, 0, 0, 0, 0, 14, 0, 14, 14, 14, 16, 0, 1, 1, 1, 1, 1, 17, 17, 17, 0, 1, 0, 17, 0, 1, 0, 0, 17, 17, 1, 16, 17, 0, 1, 0, 0, 17, 0, 2, 17, 15, 0, 0, 0, 0, 0, 0, 0, 0, 0, 0, 0, 15, 0, 15, 0, 0, 0, 0, 0, 15, 15, 0, 16, 7, 7, 7, 7, 0, 0, 0, 0, 0, 0, 0, 0, 0, 0, 0, 0, 0, 0, 0, 0, 0, 0, 0, 0, 0, 0, 0, 0, 0, 0, 0, 0, 1, 0, 1, 0, 0, 0, 0, 0, 0, 0, 0, 0, 1, 1, 1, 1, 1, 1, 0, 0, 0, 0, 0, 0, 0, 1, 0, 0, 0, 0, 1, 1, 0, 1, 0, 5, 5, 0, 1, 1, 1, 1, 1, 1, 1, 0, 1, 1, 1, 1, 0, 0, 0, 0, 0, 0, 0, 3, 4, 5, 5, 1, 5, 5, 5, 6, 0, 7, 7, 1, 1, 1, 1, 1, 2, 3, 0, 0, 3, 0, 0, 0, 1, 1, 1, 1, 0, 0, 1, 0, 0, 0, 0, 0, 1, 0, 0, 0, 0, 1, 1, 0, 1, 0, 10, 10, 0, 1, 1, 1, 1, 1, 1, 1, 1, 0, 1, 1, 1, 1, 0, 0, 0, 10, 0, 3, 1, 0, 1, 11, 0, 12, 12, 12, 4, 4, 12, 0, 0, 0, 0, 0, 0, 0, 0, 12, 0, 12, 0, 12, 0, 0, 0, 0, 0, 0, 0, 12, 0, 13, 1, 1, 1, 0, 21, 21, 21, 21, 0, 0, 31, 0, 0, 1, 0, 31, 29, 0, 0, 0, 0, 0, 0, 29, 0, 29, 0, 29, 0, 0, 0, 29, 0, 30, 30, 30, 31, 29, 0, 0, 0, 0, 0, 29, 0, 0, 0, 0, 0, 29, 0, 0, 0, 0, 0, 29, 30, 0, 31, 0, 0, 0, 0, 0, 0, 0, 0, 0, 0, 0, 0, 0, 0, 0, 0, 0, 0, 0, 0, 0, 0, 0, 0, 0, 0, 0, 1, 1, 1, 1, 1, 1, 0, 0, 0, 0, 0, 0, 0, 1, 0, 0, 0, 0, 1, 1, 0, 1, 0, 0, 0, 1, 1, 1, 1, 1, 1, 1, 1, 0, 1, 1, 1, 1, 0, 0, 2, 2, 0, 0, 0, 0, 0, 0, 0, 0, 0, 0, 0, 0, 1, 0, 0, 0, 4, 4, 4, 4, 1, 0, 0, 0, 0, 0, 0, 1, 0, 1, 0, 1, 0, 0, 0, 0, 0, 1, 0, 2, 2, 2, 5, 2, 0, 0, 0, 0, 0, 0, 2, 0, 2, 0, 2, 0, 0, 0, 0, 0, 2, 0, 3, 3, 3, 5, 2, 0, 2, 0, 0, 0, 0, 0, 0, 2, 0, 2, 0, 0, 0, 0, 0, 0, 0, 0, 34, 0, 34, 34, 34, 36, 36, 1, 1, 1, 0, 1, 1, 1, 0, 1, 1, 1, 2, 1, 1, 1, 0, 1, 1, 1, 2, 1, 1, 1, 0, 1, 1, 1, 2, 1, 1, 1, 45, 45, 45, 45, 45, 38, 0, 0, 0, 0, 0, 38, 0, 0, 0, 0, 0, 0, 38, 0, 1, 0, 3, 3, 0, 3, 3, 3, 41, 3, 3, 1, 1, 1, 29, 0, 0, 0, 0, 0, 0, 29, 0, 0, 0, 0, 0, 29, 29, 0, 30, 0, 0, 1, 0, 0, 1, 29, 0, 0, 0, 0, 0, 0, 29, 0, 0, 29, 0, 0, 3, 3, 3, 3, 4, 0, 4, 4, 4, 42, 4, 4, 2, 2, 2, 10, 0, 0, 0, 0, 0, 0, 10, 0, 0, 0, 0, 0, 10, 10, 0, 11, 0, 0, 2, 0, 0, 1, 10, 0, 0, 0, 0, 0, 0, 10, 0, 1, 10, 0, 0, 4, 4, 4, 4, 5, 0, 5, 5, 5, 43, 5, 5, 1, 5, 5, 5, 53, 9, 1, 9, 0, 9, 1, 9, 1, 1, 9, 1, 7, 3, 7, 0, 7, 1, 3, 7, 3, 0, 0, 0, 0, 1, 9, 1, 6, 2, 6, 0, 6, 1, 2, 6, 2, 0, 0, 0, 1, 0, 9, 1, 9, 1, 0, 0, 55, 48, 0, 0, 0, 0, 0, 0, 0, 0, 0, 0, 0, 48, 0, 48, 0, 0, 0, 48, 48, 0, 49, 0, 0, 1, 0, 0, 55, 0, 0, 1, 0, 1, 55, 48, 0, 0, 0, 0, 0, 0, 0, 0, 0, 0, 0, 48, 0, 48, 0, 0, 0, 0, 0, 0, 0, 0, 0, 0, 0, 0, 1, 1, 0, 3, 1, 49, 0, 0, 0, 0, 0, 49, 0, 0, 0, 0, 0, 0, 49, 0, 1, 0, 0, 1001, 0, 0, 1, 1, 0, 1, 1, 1, 1, 0, 1, 1, 0, 2, 2, 2, 0, 2, 2, 2, 2, 1, 1, 1, 1, 1, 1, 2, 0, 2, 2, 0, 0, 0, 4, 4, 0, 4, 4, 4, 53, 4, 4, 3, 3, 3, 41, 0, 0, 0, 0, 0, 0, 41, 0, 0, 0, 0, 0, 0, 0, 0, 0, 0, 0, 0, 0, 0, 0, 1, 1, 0, 0, 1, 42, 0, 0, 0, 0, 0, 42, 0, 0, 0, 0, 0, 0, 0, 42, 0, 0, 0, 0, 0, 0, 42, 0, 42, 4, 42, 0, 0, 0, 0, 0, 0, 42, 0, 0, 0, 0, 0, 0, 0, 0, 0, 0, 0, 0, 0, 0, 0, 1, 1, 0, 0, 1, 3, 3, 3, 4, 0, 4, 4, 0, 0, 0, 6, 0, 6, 6, 6, 55, 6, 6, 5, 5, 5, 23, 0, 0, 0, 0, 0, 0, 23, 0, 0, 0, 0, 0, 0, 0, 0, 0, 0, 0, 0, 0, 0, 0, 1, 1, 0, 0, 1, 24, 0, 0, 0, 0, 0, 24, 0, 0, 0, 0, 0, 0, 1, 24, 0, 0, 0, 0, 0, 0, 24, 0, 24, 6, 24, 0, 0, 0, 0, 0, 0, 24, 0, 0, 0, 0, 0, 0, 0, 0, 0, 0, 0, 0, 0, 0, 0, 1, 1, 0, 0, 1, 5, 5, 5, 6, 0, 6, 6, 0, 0, 0, 8, 0, 8, 8, 8, 57, 8, 8, 1, 1, 9, 49, 29, 68, 0, 1, 0, 1, 68, 68, 0, 1, 68, 61, 0, 0, 0, 0, 0, 0, 0, 0, 0, 0, 0, 61, 0, 61, 0, 0, 0, 61, 61, 0, 62, 0, 0, 68, 61, 0, 0, 0, 0, 0, 0, 0, 0, 0, 0, 0, 61, 0, 61, 0, 0, 0, 0, 0, 0, 0, 0, 0, 0, 0, 0, 1, 1, 0, 3, 0, 0, 1, 62, 0, 0, 0, 0, 0, 62, 0, 0, 0, 0, 0, 0, 62, 0, 1, 0, 0, 1002, 0, 0, 1, 1, 4, 65, 0, 0, 0, 0, 0, 0, 0, 0, 0, 0, 0, 65, 0, 65, 0, 0, 0, 0, 0, 65, 65, 0, 66, 0, 1, 1, 0, 1, 1, 57, 57, 57, 1, 2, 0, 2, 2, 1, 0, 1, 4, 4, 0, 4, 4, 4, 66, 4, 4, 3, 3, 3, 54, 0, 0, 0, 0, 0, 0, 54, 0, 0, 0, 0, 0, 0, 0, 0, 0, 0, 0, 0, 0, 0, 0, 0, 0, 1, 1, 0, 0, 0, 0, 1, 55, 0, 0, 0, 0, 0, 0, 55, 0, 0, 0, 0, 0, 55, 55, 0, 56, 0, 0, 1, 1, 0, 1, 1, 1, 1, 1, 55, 55, 1, 1, 1, 1, 60, 1, 60, 0, 60, 0, 1, 60, 1, 4, 4, 4, 4, 4, 4, 4, 5, 0, 5, 5, 1, 0, 1, 7, 0, 7, 7, 7, 69, 7, 7, 6, 6, 6, 37, 0, 0, 0, 0, 0, 0, 37, 0, 0, 0, 0, 0, 0, 0, 0, 0, 0, 0, 0, 0, 0, 0, 0, 0, 1, 1, 0, 0, 0, 0, 1, 38, 0, 0, 0, 0, 0, 0, 38, 0, 0, 0, 0, 0, 38, 38, 0, 39, 0, 0, 1, 1, 0, 1, 1, 1, 1, 1, 38, 38, 1, 1, 1, 1, 3, 1, 3, 0, 3, 0, 1, 3, 1, 7, 7, 7, 7, 7, 7, 7, 8, 0, 8, 8, 1, 0, 1, 10, 0, 10, 10, 10, 72, 10, 10, 1, 1, 5, 5, 0, 5, 1, 0, 3, 3, 0, 3, 3, 3, 8, 3, 3, 1, 1, 0, 0, 1, 0, 0, 63, 1, 63, 0, 0, 0, 0, 0, 0, 0, 0, 0, 0, 0, 0, 0, 0, 0, 63, 0, 63, 0, 0, 0, 0, 0, 0, 0, 63, 63, 0, 51, 0, 3, 3, 3, 3, 4, 0, 4, 4, 4, 9, 4, 4, 1, 89, 89, 4, 4, 4, 89, 89, 0, 1, 7, 1, 7, 0, 7, 1, 7, 1, 1, 7, 1, 5, 2, 5, 0, 5, 1, 2, 5, 2, 0, 0, 0, 7, 1, 7, 1, 0, 0, 91, 84, 0, 0, 0, 0, 0, 0, 0, 0, 0, 0, 0, 84, 0, 84, 0, 0, 0, 0, 0, 84, 84, 0, 85, 0, 0, 76, 0, 76, 76, 0, 0, 91, 0, 0, 7, 0, 7, 7, 0, 0, 91, 0, 1, 91, 0, 1, 0, 0, 0, 0, 1, 1, 1, 1, 0, 2, 0, 1, 0, 0, 0, 0, 1, 1, 0, 1, 0, 0, 0, 0, 0, 0, 0, 0, 0, 0, 0, 0, 0, 0, 0, 0, 0, 0, 0, 0, 0, 1, 0, 1, 0, 0, 0, 0, 0, 0, 0, 0, 0, 1, 1, 1, 1, 1, 1, 0, 0, 0, 0, 0, 0, 0, 1, 0, 0, 0, 0, 1, 1, 0, 1, 0, 5, 5, 0, 1, 1, 1, 1, 1, 1, 1, 0, 1, 1, 1, 1, 0, 0, 0, 5, 0, 3, 4, 5, 5, 1, 5, 5, 5, 6, 0, 7, 7, 1, 1, 1, 1, 1, 2, 3, 0, 3, 8, 8, 8, 8, 6, 9, 0, 0, 0, 0, 0, 0, 9, 0, 9, 0, 9, 0, 0, 0, 0, 0, 9, 0, 10, 10, 10, 11, 11, 11, 0, 1, 0, 11, 0, 1, 0, 0, 11, 9, 0, 0, 0, 0, 0, 9, 0, 0, 0, 0, 0, 9, 0, 0, 0, 0, 0, 9, 10, 0, 0, 0, 0, 0, 0, 0, 0, 0, 0, 0, 0, 0, 0, 0, 0, 0, 0, 0, 0, 0, 0, 0, 0, 0, 0, 0, 0, 1, 1, 1, 1, 1, 1, 0, 0, 0, 0, 0, 0, 0, 1, 0, 0, 0, 0, 1, 1, 0, 1, 0, 0, 0, 1, 1, 1, 1, 1, 1, 1, 1, 0, 1, 1, 1, 1, 0, 0, 2, 2, 0, 0, 0, 0, 0, 0, 0, 0, 0, 0, 0, 0, 0, 0, 0, 0, 4, 4, 4, 4, 1, 0, 0, 0, 0, 0, 0, 1, 0, 1, 0, 1, 0, 0, 0, 0, 0, 1, 0, 2, 2, 2, 5, 2, 0, 0, 0, 0, 0, 0, 2, 0, 2, 0, 2, 0, 0, 0, 0, 0, 2, 0, 3, 3, 3, 5, 2, 0, 2, 0, 0, 0, 0, 0, 0, 2, 0, 2, 0, 0, 0, 0, 0, 0, 0, 0, 14, 0, 14, 14, 14, 16, 0, 1, 1, 1, 1, 1, 17, 17, 17, 0, 1, 0, 17, 0, 1, 0, 2, 0, 17, 0, 1, 0, 0, 0, 0, 0, 0, 0, 0, 0, 0, 0, 0, 0, 0, 0, 0, 0, 0, 0, 0, 0, 0, 0, 0, 0, 0, 0, 1, 0, 1, 0, 0, 0, 0, 0, 0, 0, 0, 1, 0, 1, 0, 2, 2, 2, 2, 2, 0, 2, 2, 0, 2, 2, 20, 20, 21, 21, 112, 3, 3, 3, 1, 1, 3, 1, 1, 1, 22, 4, 4, 4, 1, 1, 0, 0, 0, 0, 0, 4, 0, 0, 4, 1, 1, 23, 23, 0, 0, 23, 0, 0, 1, 4, 0, 0, 0, 0, 0, 0, 0, 0, 4, 0, 4, 3, 0, 23, 0, 1, 23, 23, 23, 23, 114, 114, 0, 1, 114, 0, 1, 114, 0, 1, 114, 0, 1, 114, 0, 1, 1, 1, 0, 1, 1, 0, 1, 1, 0, 1, 1, 1, 2, 1, 1, 116, 116, 0, 116, 116, 0, 1, 0, 0, 0, 0, 1, 1, 1, 1, 0, 2, 0, 1, 0, 0, 0, 0, 1, 1, 0, 1, 0, 0, 0, 0, 0, 0, 0, 0, 0, 0, 0, 0, 0, 0, 0, 0, 0, 0, 0, 0, 0, 1, 0, 1, 0, 0, 0, 0, 0, 0, 0, 0, 0, 1, 1, 1, 1, 1, 1, 0, 0, 0, 0, 0, 0, 0, 1, 0, 0, 0, 0, 1, 1, 0, 1, 0, 5, 5, 0, 1, 1, 1, 1, 1, 1, 1, 0, 1, 1, 1, 1, 0, 0, 0, 5, 0, 3, 4, 5, 5, 1, 5, 5, 5, 6, 0, 7, 7, 1, 1, 1, 1, 1, 2, 3, 0, 3, 8, 8, 8, 8, 6, 9, 0, 0, 0, 0, 0, 0, 9, 0, 9, 0, 9, 0, 0, 0, 0, 0, 9, 0, 10, 10, 10, 11, 11, 11, 0, 1, 0, 11, 0, 1, 0, 0, 0, 11, 0, 1, 0, 0, 0, 0, 0, 0, 0, 0, 0, 0, 0, 0, 0, 0, 0, 0, 0, 0, 0, 0, 0, 0, 0, 0, 0, 0, 0, 1, 0, 1, 0, 0, 0, 0, 0, 0, 0, 0, 1, 0, 1, 0, 2, 2, 2, 2, 2, 0, 2, 2, 0, 2, 2, 14, 14, 15, 15, 131, 3, 3, 3, 1, 1, 3, 1, 1, 1, 16, 4, 4, 4, 1, 1, 0, 0, 0, 0, 0, 4, 0, 0, 4, 1, 1, 17, 17, 0, 0, 17, 0, 0, 1, 4, 0, 0, 0, 0, 0, 0, 0, 0, 4, 0, 4, 3, 0, 17, 0, 1, 17, 17, 17, 17, 1, 18, 0, 18, 18, 18, 19, 18, 18, 133, 133, 0, 133, 133, 0, 1, 0, 0, 0, 0, 1, 1, 1, 1, 0, 2, 0, 1, 0, 0, 0, 0, 1, 1, 0, 1, 0, 0, 0, 0, 0, 0, 0, 0, 0, 0, 0, 0, 0, 0, 0, 0, 0, 0, 0, 0, 0, 1, 0, 1, 0, 0, 0, 0, 0, 0, 0, 0, 0, 1, 1, 1, 1, 1, 1, 0, 0, 0, 0, 0, 0, 0, 1, 0, 0, 0, 0, 1, 1, 0, 1, 0, 5, 5, 0, 1, 1, 1, 1, 1, 1, 1, 0, 1, 1, 1, 1, 0, 0, 0, 5, 0, 3, 4, 5, 5, 1, 5, 5, 5, 6, 0, 7, 7, 1, 1, 1, 1, 1, 2, 3, 0, 3, 8, 8, 8, 8, 6, 9, 0, 0, 0, 0, 0, 0, 9, 0, 9, 0, 9, 0, 0, 0, 0, 0, 9, 0, 10, 10, 10, 11, 11, 11, 0, 1, 0, 11, 0, 1, 0, 0, 0, 11, 0, 1, 0, 0, 0, 0, 0, 0, 0, 0, 0, 0, 0, 0, 0, 0, 0, 0, 0, 0, 0, 0, 0, 0, 0, 0, 0, 0, 0, 1, 0, 1, 0, 0, 0, 0, 0, 0, 0, 0, 1, 0, 1, 0, 2, 2, 2, 2, 2, 0, 2, 2, 0, 2, 2, 14, 14, 15, 15, 148, 3, 3, 3, 1, 1, 3, 1, 1, 1, 16, 4, 4, 4, 1, 1, 0, 0, 0, 0, 0, 4, 0, 0, 4, 1, 1, 17, 17, 0, 0, 17, 0, 0, 1, 4, 0, 0, 0, 0, 0, 0, 0, 0, 4, 0, 4, 3, 0, 17, 0, 1, 17, 17, 17, 17, 1, 35, 0, 35, 35, 35, 36, 35, 35, 150, 150, 0, 150, 150, 0, 1, 0, 0, 0, 0, 1, 1, 1, 1, 0, 2, 0, 1, 0, 0, 0, 0, 1, 1, 0, 1, 0, 0, 0, 0, 0, 0, 0, 0, 0, 0, 0, 0, 0, 0, 0, 0, 0, 0, 0, 0, 0, 1, 0, 1, 0, 0, 0, 0, 0, 0, 0, 0, 0, 1, 1, 1, 1, 1, 1, 0, 0, 0, 0, 0, 0, 0, 1, 0, 0, 0, 0, 1, 1, 0, 1, 0, 5, 5, 0, 1, 1, 1, 1, 1, 1, 1, 0, 1, 1, 1, 1, 0, 0, 0, 5, 0, 3, 4, 5, 5, 1, 5, 5, 5, 6, 0, 7, 7, 1, 1, 1, 1, 1, 2, 3, 0, 3, 8, 8, 8, 8, 6, 9, 0, 0, 0, 0, 0, 0, 9, 0, 9, 0, 9, 0, 0, 0, 0, 0, 9, 0, 10, 10, 10, 11, 11, 11, 0, 1, 0, 11, 0, 1, 0, 0, 0, 11, 0, 1, 0, 0, 0, 0, 0, 0, 0, 0, 0, 0, 0, 0, 0, 0, 0, 0, 0, 0, 0, 0, 0, 0, 0, 0, 0, 0, 0, 1, 0, 1, 0, 0, 0, 0, 0, 0, 0, 0, 1, 0, 1, 0, 2, 2, 2, 2, 2, 0, 2, 2, 0, 2, 2, 14, 14, 15, 15, 165, 3, 3, 3, 1, 1, 3, 1, 1, 1, 16, 4, 4, 4, 1, 1, 0, 0, 0, 0, 0, 4, 0, 0, 4, 1, 1, 17, 17, 0, 0, 17, 0, 0, 1, 4, 0, 0, 0, 0, 0, 0, 0, 0, 4, 0, 4, 3, 0, 17, 0, 1, 17, 17, 17, 17, 1, 52, 0, 52, 52, 52, 53, 52, 52, 1]
section
variable (w : World) (f₁ f₂ f₃ : Bool) (h₀ : Heap) (g : Array GenState) (d : Drawn) (os : OsState) (F : FrD) (x : Nat) (r : List Nat) (y : Nat) (ys : List Nat) (yL IT : Nat) (q₁ q₂ : Nat) (bk : Value) (b t tb : Nat) (p₁ p₂ p₃ p₄ : Addr × Obj) (sk : Sk)
noncomputable def r_BPY : Out Fin :=
  innerRun w f₁ f₂ f₃ h₀ g d os (48 :: x :: r) (y :: ys) (yL + 358) IT (.str (tS (y :: ys)) tb) ⟨b, t, [p₁, p₂, p₃, p₄, (yL + 358, lawFr { F with fig := (48 :: x :: r) } bk)], 358, 0, h_BPY, [], (tabs q₁ q₂), []⟩ sk
noncomputable def c_BPY : List Dsc := [
  .eq (tS (69 :: (120 :: (112 :: (101 :: (99 :: (116 :: (101 :: (100 :: (32 :: (115 :: (101 :: (99 :: (116 :: (105 :: (111 :: (110 :: (32 :: (98 :: (117 :: (116 :: (32 :: (102 :: (111 :: (117 :: (110 :: (100 :: (32 :: (40 :: (97 :: (41 :: (42 :: (48 :: (x :: (r ++ (y :: ys)))))))))))))))))))))))))))))))))))) (tS (69 :: (120 :: (112 :: (101 :: (99 :: (116 :: (101 :: (100 :: (32 :: (115 :: (101 :: (99 :: (116 :: (105 :: (111 :: (110 :: (32 :: (98 :: (117 :: (116 :: (32 :: (102 :: (111 :: (117 :: (110 :: (100 :: (32 :: (40 :: (97 :: (41 :: (42 :: (48 :: (x :: (r ++ (y :: ys)))))))))))))))))))))))))))))))))))),
  .fmt (27 + (tS (40 :: (97 :: (41 :: (42 :: (48 :: (x :: (r ++ (y :: ys))))))))).length) (69 :: (120 :: (112 :: (101 :: (99 :: (116 :: (101 :: (100 :: (32 :: (115 :: (101 :: (99 :: (116 :: (105 :: (111 :: (110 :: (32 :: (98 :: (117 :: (116 :: (32 :: (102 :: (111 :: (117 :: (110 :: (100 :: (32 :: (40 :: (97 :: (41 :: (42 :: (48 :: (x :: (r ++ (y :: ys))))))))))))))))))))))))))))))))))),
  .small (((tS (40 :: (97 :: (41 :: (42 :: (48 :: (x :: (r ++ (y :: ys))))))))).length : Nat) : Int),
  .addr (b + (48 :: (x :: r)).length + 513) (b + (48 :: (x :: r)).length + 507),
  .add (tS (69 :: (120 :: (112 :: (101 :: (99 :: (116 :: (101 :: (100 :: (32 :: (115 :: (101 :: (99 :: (116 :: (105 :: (111 :: (110 :: (32 :: (98 :: (117 :: (116 :: (32 :: (102 :: (111 :: (117 :: (110 :: (100 :: (32 :: [])))))))))))))))))))))))))))) (tS (40 :: (97 :: (41 :: (42 :: (48 :: (x :: (r ++ (y :: ys))))))))),
  .eq (tS (69 :: (120 :: (112 :: (101 :: (99 :: (116 :: (101 :: (100 :: (32 :: (115 :: (101 :: (99 :: (116 :: (105 :: (111 :: (110 :: (32 :: (98 :: (117 :: (116 :: (32 :: (102 :: (111 :: (117 :: (110 :: (100 :: (32 :: (32 :: (42 :: (48 :: (x :: (r ++ (y :: ys)))))))))))))))))))))))))))))))))) (tS (69 :: (120 :: (112 :: (101 :: (99 :: (116 :: (101 :: (100 :: (32 :: (115 :: (101 :: (99 :: (116 :: (105 :: (111 :: (110 :: (32 :: (98 :: (117 :: (116 :: (32 :: (102 :: (111 :: (117 :: (110 :: (100 :: (32 :: (32 :: (42 :: (48 :: (x :: (r ++ (y :: ys)))))))))))))))))))))))))))))))))),
  .fmt (27 + (tS (32 :: (42 :: (48 :: (x :: (r ++ (y :: ys))))))).length) (69 :: (120 :: (112 :: (101 :: (99 :: (116 :: (101 :: (100 :: (32 :: (115 :: (101 :: (99 :: (116 :: (105 :: (111 :: (110 :: (32 :: (98 :: (117 :: (116 :: (32 :: (102 :: (111 :: (117 :: (110 :: (100 :: (32 :: (32 :: (42 :: (48 :: (x :: (r ++ (y :: ys))))))))))))))))))))))))))))))))),
  .small (((tS (32 :: (42 :: (48 :: (x :: (r ++ (y :: ys))))))).length : Nat) : Int),
  .addr (b + (48 :: (x :: r)).length + 496) (b + (48 :: (x :: r)).length + 490),
  .add (tS (69 :: (120 :: (112 :: (101 :: (99 :: (116 :: (101 :: (100 :: (32 :: (115 :: (101 :: (99 :: (116 :: (105 :: (111 :: (110 :: (32 :: (98 :: (117 :: (116 :: (32 :: (102 :: (111 :: (117 :: (110 :: (100 :: (32 :: [])))))))))))))))))))))))))))) (tS (32 :: (42 :: (48 :: (x :: (r ++ (y :: ys))))))),
  .eq (tS (69 :: (120 :: (112 :: (101 :: (99 :: (116 :: (101 :: (100 :: (32 :: (115 :: (101 :: (99 :: (116 :: (105 :: (111 :: (110 :: (32 :: (98 :: (117 :: (116 :: (32 :: (102 :: (111 :: (117 :: (110 :: (100 :: (32 :: (48 :: (x :: (r ++ (y :: ys)))))))))))))))))))))))))))))))) (tS (69 :: (120 :: (112 :: (101 :: (99 :: (116 :: (101 :: (100 :: (32 :: (115 :: (101 :: (99 :: (116 :: (105 :: (111 :: (110 :: (32 :: (98 :: (117 :: (116 :: (32 :: (102 :: (111 :: (117 :: (110 :: (100 :: (32 :: (48 :: (x :: (r ++ (y :: ys)))))))))))))))))))))))))))))))),
  .fmt (27 + (tS (48 :: (x :: (r ++ (y :: ys))))).length) (69 :: (120 :: (112 :: (101 :: (99 :: (116 :: (101 :: (100 :: (32 :: (115 :: (101 :: (99 :: (116 :: (105 :: (111 :: (110 :: (32 :: (98 :: (117 :: (116 :: (32 :: (102 :: (111 :: (117 :: (110 :: (100 :: (32 :: (48 :: (x :: (r ++ (y :: ys))))))))))))))))))))))))))))))),
  .small (((tS (48 :: (x :: (r ++ (y :: ys))))).length : Nat) : Int),
  .addr (b + (48 :: (x :: r)).length + 479) (b + (48 :: (x :: r)).length + 473),
  .add (tS (69 :: (120 :: (112 :: (101 :: (99 :: (116 :: (101 :: (100 :: (32 :: (115 :: (101 :: (99 :: (116 :: (105 :: (111 :: (110 :: (32 :: (98 :: (117 :: (116 :: (32 :: (102 :: (111 :: (117 :: (110 :: (100 :: (32 :: [])))))))))))))))))))))))))))) (tS (48 :: (x :: (r ++ (y :: ys))))),
  .add (tS (40 :: (97 :: (41 :: (42 :: (48 :: (x :: r))))))) (tS (y :: ys)),
  .add (tS (40 :: (97 :: (41 :: (42 :: []))))) (tS (48 :: (x :: r))),
  .add (tS (32 :: (42 :: (48 :: (x :: r))))) (tS (y :: ys)),
  .add (tS (32 :: (42 :: []))) (tS (48 :: (x :: r))),
  .add (tS (48 :: (x :: r))) (tS (y :: ys)),
  .eq (tS (69 :: (120 :: (112 :: (101 :: (99 :: (116 :: (101 :: (100 :: (32 :: (115 :: (101 :: (99 :: (116 :: (105 :: (111 :: (110 :: (32 :: (110 :: (117 :: (109 :: (98 :: (101 :: (114 :: (32 :: (98 :: (117 :: (116 :: (32 :: (102 :: (111 :: (117 :: (110 :: (100 :: (32 :: (y :: ys)))))))))))))))))))))))))))))))))))) (tS (69 :: (120 :: (112 :: (101 :: (99 :: (116 :: (101 :: (100 :: (32 :: (115 :: (101 :: (99 :: (116 :: (105 :: (111 :: (110 :: (32 :: (110 :: (117 :: (109 :: (98 :: (101 :: (114 :: (32 :: (98 :: (117 :: (116 :: (32 :: (102 :: (111 :: (117 :: (110 :: (100 :: (32 :: (y :: ys)))))))))))))))))))))))))))))))))))),
  .fmt (34 + (tS (y :: ys)).length) (69 :: (120 :: (112 :: (101 :: (99 :: (116 :: (101 :: (100 :: (32 :: (115 :: (101 :: (99 :: (116 :: (105 :: (111 :: (110 :: (32 :: (110 :: (117 :: (109 :: (98 :: (101 :: (114 :: (32 :: (98 :: (117 :: (116 :: (32 :: (102 :: (111 :: (117 :: (110 :: (100 :: (32 :: (y :: ys))))))))))))))))))))))))))))))))))),
  .nodig (tS (y :: [])),
  .small (((tS (y :: ys)).length : Nat) : Int),
  .size (y :: ys),
  .small (((tS (42 :: (y :: ys))).length : Nat) : Int),
  .addr (b + (48 :: (x :: r)).length + 454) (b + (48 :: (x :: r)).length + 448),
  .add (tS (69 :: (120 :: (112 :: (101 :: (99 :: (116 :: (101 :: (100 :: (32 :: (115 :: (101 :: (99 :: (116 :: (105 :: (111 :: (110 :: (32 :: (110 :: (117 :: (109 :: (98 :: (101 :: (114 :: (32 :: (98 :: (117 :: (116 :: (32 :: (102 :: (111 :: (117 :: (110 :: (100 :: (32 :: []))))))))))))))))))))))))))))))))))) (tS (y :: ys)),
  .add (tS (42 :: [])) (tS (y :: ys)),
  .diff (.str (tS (115 :: (101 :: (99 :: (116 :: (105 :: (111 :: (110 :: (32 :: (110 :: (117 :: (109 :: (98 :: (101 :: (114 :: (32 :: (104 :: (97 :: (115 :: (32 :: (97 :: (110 :: (32 :: (105 :: (110 :: (118 :: (97 :: (108 :: (105 :: (100 :: (32 :: (108 :: (101 :: (97 :: (100 :: (105 :: (110 :: (103 :: (32 :: (48 :: [])))))))))))))))))))))))))))))))))))))))) ((lpT true (48 :: (x :: r)) (List.isEmpty (y :: ys)) (t + 39) (t + 31) (t + 37)).1 + 5)) (.str (tS (115 :: (101 :: (99 :: (116 :: (105 :: (111 :: (110 :: (32 :: (110 :: (117 :: (109 :: (98 :: (101 :: (114 :: (32 :: (104 :: (97 :: (115 :: (32 :: (97 :: (110 :: (32 :: (105 :: (110 :: (118 :: (97 :: (108 :: (105 :: (100 :: (32 :: (108 :: (101 :: (97 :: (100 :: (105 :: (110 :: (103 :: (32 :: (48 :: [])))))))))))))))))))))))))))))))))))))))) ((lpT true (48 :: (x :: r)) (List.isEmpty (y :: ys)) (t + 39) (t + 31) (t + 37)).1 + 87)),
  .diff (.ref (b + (48 :: (x :: r)).length + 439)) (.ref (b + (48 :: (x :: r)).length + 442)),
  .gt F.kk 0,
  .addr (b + (48 :: (x :: r)).length + 430) (b + (48 :: (x :: r)).length + 393),
  .addr (b + (48 :: (x :: r)).length + 427) (b + 373),
  .eq (tS (y :: ys)) (tS (y :: ys)),
  .eq (tS (42 :: (48 :: (x :: r)))) (tS (42 :: (48 :: (x :: r)))),
  .add (tS (42 :: [])) (tS (48 :: (x :: r))),
  .join (tS (42 :: [])) (tS []) (tS (48 :: (x :: r))),
  .small (((tS (48 :: (x :: r))).length : Nat) : Int),
  .addr (b + (48 :: (x :: r)).length + 412) (b + (48 :: (x :: r)).length + 411),
  .eq (tS (digs ((PySem.intText? (tS (48 :: x :: r))).getD 0))) (tS (digs F.n)),
  .repr F.n,
  .repr ((PySem.intText? (tS (48 :: (x :: r)))).getD 0),
  .eq (tS (48 :: (x :: r))) (tS (48 :: (x :: r))),
  .diff (.str (tS (48 :: (x :: r))) ((lpT true (48 :: (x :: r)) (List.isEmpty (y :: ys)) (t + 39) (t + 31) (t + 37)).1 + 37)) (.str (tS (48 :: (x :: r))) (F.k 13)),
  .diff (.str (tS (100 :: (105 :: (103 :: (105 :: (116 :: (115 :: []))))))) ((lpT true (48 :: (x :: r)) (List.isEmpty (y :: ys)) (t + 39) (t + 31) (t + 37)).1 + 18)) (.str (tS (100 :: (105 :: (103 :: (105 :: (116 :: (115 :: []))))))) ((lpT true (48 :: (x :: r)) (List.isEmpty (y :: ys)) (t + 39) (t + 31) (t + 37)).1 + 40)),
  .diff (.ref (b + (48 :: (x :: r)).length + 402)) (.ref (b + (48 :: (x :: r)).length + 406)),
  .diff (.str (tS (42 :: [])) ((lpT true (48 :: (x :: r)) (List.isEmpty (y :: ys)) (t + 39) (t + 31) (t + 37)).1 + 34)) (.str (tS (42 :: [])) ((lpT true (48 :: (x :: r)) (List.isEmpty (y :: ys)) (t + 39) (t + 31) (t + 37)).1 + 39)),
  .diff (.str (tS (115 :: (101 :: (99 :: (116 :: (105 :: (111 :: (110 :: (45 :: (109 :: (97 :: (114 :: (107 :: (101 :: (114 :: []))))))))))))))) (t + 18)) (.str (tS (115 :: (101 :: (99 :: (116 :: (105 :: (111 :: (110 :: (45 :: (109 :: (97 :: (114 :: (107 :: (101 :: (114 :: []))))))))))))))) ((lpT true (48 :: (x :: r)) (List.isEmpty (y :: ys)) (t + 39) (t + 31) (t + 37)).1 + 38)),
  .diff (.ref (b + (48 :: (x :: r)).length + 401)) (.ref (b + (48 :: (x :: r)).length + 405)),
  .str (tS (48 :: (x :: r))),
  .str (tS (48 :: (x :: r))),
  .txt (tS (48 :: (x :: r))),
  .addr (b + (48 :: (x :: r)).length + 383) (b + (48 :: (x :: r)).length + 377),
  .ne (tS (48 :: (x :: r))) (tS (48 :: [])),
  .code (lp w f₁ f₂ f₃ (b + 358)) (lp w f₁ f₂ f₃ (b + 358)),
  .eq (tS (48 :: (x :: (r ++ (y :: ys))))) (tS ((48 :: (x :: r)) ++ (y :: ys))),
  .le 358 (b + 358),
  .le 358 (b + 375),
  .small (((tS (48 :: (x :: (r ++ (y :: ys))))).length : Nat) : Int),
  .size (48 :: (x :: (r ++ (y :: ys)))),
  .small (((tS (42 :: (48 :: (x :: (r ++ (y :: ys)))))).length : Nat) : Int),
  .addr (b + 367) (b + 361),
  .add (tS (42 :: (48 :: (x :: r)))) (tS (y :: ys)),
  .add (tS (42 :: [])) (tS (48 :: (x :: r)))]
theorem t_BPY : (r_BPY w f₁ f₂ f₃ h₀ g d os F x r y ys yL IT q₁ q₂ bk b t tb p₁ p₂ p₃ p₄ sk).sum [164, 165, 166, 167, 168] =
    some (.again (innerC (KT w f₁ f₂ f₃) (yL + 358) IT), [some p₁, some p₂, some p₃, some p₄, some (yL + 358, lawFr (FrD.turn { F with fig := (48 :: x :: r) } (y :: ys) (40 :: (97 :: (41 :: (42 :: (48 :: (x :: (r ++ (y :: ys)))))))) (.ref (b + 360)) (.ref (b + (48 :: (x :: r)).length + 437)) tb (lpT true (48 :: (x :: r)) (List.isEmpty (y :: ys)) (t + 39) (t + 31) (t + 37)).2.1 ((lpT true (48 :: (x :: r)) (List.isEmpty (y :: ys)) (t + 39) (t + 31) (t + 37)).1 + 142)) bk)], ((b + (48 :: (x :: r)).length), (lpT true (48 :: (x :: r)) (List.isEmpty (y :: ys)) (t + 39) (t + 31) (t + 37)).1, 522, 209, tabs q₁ q₂, [.finished, .finished]), [], (c_BPY w f₁ f₂ f₃ F x r y ys b t), (r_BPY w f₁ f₂ f₃ h₀ g d os F x r y ys yL IT q₁ q₂ bk b t tb p₁ p₂ p₃ p₄ sk).rt) := by
  cases f₁ <;> kernel_rfl
end
end Mine

namespace Mine
noncomputable def h_BPE : List Nat := [5, 5, 0, 5, 0, 1, 5, 0, 0, 0, 0, 0, 0, 1, 1, 0, 1, 0, 0, 0, 0, 0, 0, 0, 0, 0, 0, 0, 0, 0, 0, 0, 0, 0, 0, 0, 0, 0, 1, 0, 1, 0, 0, 0, 0, 0, 0, 0, 0, 0, 1, 1, 1, 1, 1, 1, 0, 0, 0, 0, 0, 0, 0, 1, 0, 0, 0, 0, 1, 1, 0, 1, 0, 5, 5, 0, 1, 1, 1, 1, 1, 1, 1, 0, 1, 1, 1, 1, 0, 0, 0, 5, 0, 3, 4, 5, 5, 1, 5, 5, 5, 6, 0, 7, 7, 1, 1, 1, 1, 1, 2, 3, 0, 3, 8, 8, 8, 8, 6, 9, 0, 0, 0, 0, 0, 0, 9, 0, 9, 0, 9, 0, 0, 0, 0, 0, 9, 0, 10, 10, 10, 11, 11, 11, 0, 1, 0, 11, 0, 1, 0, 0, 11, 9, 0, 0, 0, 0, 0, 9, 0, 0, 0, 0, 0, 9, 0, 0, 0, 0, 0, 9, 10, 0, 0, 0, 0, 0, 0, 0, 0, 0, 0, 0, 0, 0, 0, 0, 0, 0, 0, 0, 0, 0, 0, 0, 0, 0, 0, 0, 0, 1, 1, 1, 1, 1, 1, 0, 0, 0, 0, 0, 0, 0, 1, 0, 0, 0, 0, 1, 1, 0, 1, 0, 0, 0, 1, 1, 1, 1, 1, 1, 1, 1, 0, 1, 1, 1, 1, 0, 0, 2, 2, 0, 0, 0, 0, 0, 0, 0, 0, 0, 0, 0, 0, 0, 0, 0, 0, 4, 4, 4, 4, 1, 0, 0, 0, 0, 0, 0, 1, 0, 1, 0, 1, 0, 0, 0, 0, 0, 1, 0, 2, 2, 2, 5, 2, 0, 0, 0, 0, 0, 0, 2, 0, 2, 0, 2, 0, 0, 0, 0, 0, 2, 0, 3, 3, 3, 5, 2, 0, 2, 0, 0, 0, 0, 0, 0, 2, 0, 2, 0, 0, 0, 0, 0, 0, 0, 0, 14, 0, 14, 14, 14, 16, 0, 1, 1, 1, 1, 1, 17, 17, 17, 0, 1, 0, 17, 0, 1, 0, 0, 17, 17, 1, 16, 17, 0, 1, 0, 0, 17, 0, 2, 17, 15, 0, 0, 0, 0, 0, 0, 0, 0, 0, 0, 0, 15, 0, 15, 0, 0, 0, 0, 0, 15, 15, 0, 16, 7, 7, 7, 7, 0, 0, 0, 0, 0, 0, 0, 0, 0, 0, 0, 0, 0, 0, 0, 0, 0, 0, 0, 0, 0, 0, 0, 0, 0, 0, 0, 0, 1, 0, 1, 0, 0, 0, 0, 0, 0, 0, 0, 0, 1, 1, 1, 1, 1, 1, 0, 0, 0, 0, 0, 0, 0, 1, 0, 0, 0, 0, 1, 1, 0, 1, 0, 5, 5, 0, 1, 1, 1, 1, 1, 1, 1, 0, 1, 1, 1, 1, 0, 0, 0, 0, 0, 0, 0, 3, 4, 5, 5, 1, 5, 5, 5, 6, 0, 7, 7, 1, 1, 1, 1, 1, 2, 3, 0, 0, 3, 0, 0, 0, 1, 1, 1, 1, 0, 0, 1, 0, 0, 0, 0, 0, 1, 0, 0, 0, 0, 1, 1, 0, 1, 0, 10, 10, 0, 1, 1, 1, 1, 1, 1, 1, 1, 0, 1, 1, 1, 1, 0, 0, 0, 10, 0, 3, 1, 0, 1, 11, 0, 12, 12, 12, 4, 4, 12, 0, 0, 0, 0, 0, 0, 0, 0, 12, 0, 12, 0, 12, 0, 0, 0, 0, 0, 0, 0, 12, 0, 13, 1, 1, 1, 0, 21, 21, 21, 21, 0, 0, 31, 0, 0, 1, 0, 31, 29, 0, 0, 0, 0, 0, 0, 29, 0, 29, 0, 29, 0, 0, 0, 29, 0, 30, 30, 30, 31, 29, 0, 0, 0, 0, 0, 29, 0, 0, 0, 0, 0, 29, 0, 0, 0, 0, 0, 29, 30, 0, 31, 0, 0, 0, 0, 0, 0, 0, 0, 0, 0, 0, 0, 0, 0, 0, 0, 0, 0, 0, 0, 0, 0, 0, 0, 0, 0, 0, 1, 1, 1, 1, 1, 1, 0, 0, 0, 0, 0, 0, 0, 1, 0, 0, 0, 0, 1, 1, 0, 1, 0, 0, 0, 1, 1, 1, 1, 1, 1, 1, 1, 0, 1, 1, 1, 1, 0, 0, 2, 2, 0, 0, 0, 0, 0, 0, 0, 0, 0, 0, 0, 0, 1, 0, 0, 0, 4, 4, 4, 4, 1, 0, 0, 0, 0, 0, 0, 1, 0, 1, 0, 1, 0, 0, 0, 0, 0, 1, 0, 2, 2, 2, 5, 2, 0, 0, 0, 0, 0, 0, 2, 0, 2, 0, 2, 0, 0, 0, 0, 0, 2, 0, 3, 3, 3, 5, 2, 0, 2, 0, 0, 0, 0, 0, 0, 2, 0, 2, 0, 0, 0, 0, 0, 0, 0, 0, 34, 0, 34, 34, 34, 36, 36, 1, 1, 1, 0, 1, 1, 1, 0, 1, 1, 1, 2, 1, 1, 1, 0, 1, 1, 1, 2, 1, 1, 1, 0, 1, 1, 1, 2, 1, 1, 1, 45, 45, 45, 45, 45, 38, 0, 0, 0, 0, 0, 38, 0, 0, 0, 0, 0, 0, 38, 0, 1, 0, 3, 3, 0, 3, 3, 3, 41, 3, 3, 1, 1, 1, 29, 0, 0, 0, 0, 0, 0, 29, 0, 0, 0, 0, 0, 29, 29, 0, 30, 0, 0, 1, 0, 0, 1, 29, 0, 0, 0, 0, 0, 0, 29, 0, 0, 29, 0, 0, 3, 3, 3, 3, 4, 0, 4, 4, 4, 42, 4, 4, 2, 2, 2, 10, 0, 0, 0, 0, 0, 0, 10, 0, 0, 0, 0, 0, 10, 10, 0, 11, 0, 0, 2, 0, 0, 1, 10, 0, 0, 0, 0, 0, 0, 10, 0, 1, 10, 0, 0, 4, 4, 4, 4, 5, 0, 5, 5, 5, 43, 5, 5, 1, 5, 5, 5, 53, 9, 1, 9, 0, 9, 1, 9, 1, 1, 9, 1, 7, 3, 7, 0, 7, 1, 3, 7, 3, 0, 0, 0, 0, 1, 9, 1, 6, 2, 6, 0, 6, 1, 2, 6, 2, 0, 0, 0, 1, 0, 9, 1, 9, 1, 0, 0, 55, 48, 0, 0, 0, 0, 0, 0, 0, 0, 0, 0, 0, 48, 0, 48, 0, 0, 0, 48, 48, 0, 49, 0, 0, 1, 0, 0, 55, 0, 0, 1, 0, 1, 55, 48, 0, 0, 0, 0, 0, 0, 0, 0, 0, 0, 0, 48, 0, 48, 0, 0, 0, 0, 0, 0, 0, 0, 0, 0, 0, 0, 1, 1, 0, 3, 1, 49, 0, 0, 0, 0, 0, 49, 0, 0, 0, 0, 0, 0, 49, 0, 1, 0, 0, 1001, 0, 0, 1, 1, 0, 1, 1, 1, 1, 0, 1, 1, 0, 2, 2, 2, 0, 2, 2, 2, 2, 1, 1, 1, 1, 1, 1, 2, 0, 2, 2, 0, 0, 0, 4, 4, 0, 4, 4, 4, 53, 4, 4, 3, 3, 3, 41, 0, 0, 0, 0, 0, 0, 41, 0, 0, 0, 0, 0, 0, 0, 0, 0, 0, 0, 0, 0, 0, 0, 1, 1, 0, 0, 1, 42, 0, 0, 0, 0, 0, 42, 0, 0, 0, 0, 0, 0, 0, 42, 0, 0, 0, 0, 0, 0, 42, 0, 42, 4, 42, 0, 0, 0, 0, 0, 0, 42, 0, 0, 0, 0, 0, 0, 0, 0, 0, 0, 0, 0, 0, 0, 0, 1, 1, 0, 0, 1, 3, 3, 3, 4, 0, 4, 4, 0, 0, 0, 6, 0, 6, 6, 6, 55, 6, 6, 5, 5, 5, 23, 0, 0, 0, 0, 0, 0, 23, 0, 0, 0, 0, 0, 0, 0, 0, 0, 0, 0, 0, 0, 0, 0, 1, 1, 0, 0, 1, 24, 0, 0, 0, 0, 0, 24, 0, 0, 0, 0, 0, 0, 1, 24, 0, 0, 0, 0, 0, 0, 24, 0, 24, 6, 24, 0, 0, 0, 0, 0, 0, 24, 0, 0, 0, 0, 0, 0, 0, 0, 0, 0, 0, 0, 0, 0, 0, 1, 1, 0, 0, 1, 5, 5, 5, 6, 0, 6, 6, 0, 0, 0, 8, 0, 8, 8, 8, 57, 8, 8, 1, 1, 9, 49, 29, 68, 0, 1, 0, 1, 68, 68, 0, 0, 68, 61, 0, 0, 0, 0, 0, 0, 0, 0, 0, 0, 0, 61, 0, 61, 0, 0, 0, 61, 61, 0, 62, 0, 0, 68, 61, 0, 0, 0, 0, 0, 0, 0, 0, 0, 0, 0, 61, 0, 61, 0, 0, 0, 0, 0, 0, 0, 0, 0, 0, 0, 0, 1, 1, 0, 3, 0, 0, 1, 62, 0, 0, 0, 0, 0, 62, 0, 0, 0, 0, 0, 0, 62, 0, 1, 0, 0, 1002, 0, 0, 1, 1, 4, 65, 0, 0, 0, 0, 0, 0, 0, 0, 0, 0, 0, 65, 0, 65, 0, 0, 0, 0, 0, 65, 65, 0, 66, 0, 1, 1, 0, 1, 1, 57, 57, 57, 1, 2, 0, 2, 2, 1, 0, 1, 4, 4, 0, 4, 4, 4, 66, 4, 4, 3, 3, 3, 54, 0, 0, 0, 0, 0, 0, 54, 0, 0, 0, 0, 0, 0, 0, 0, 0, 0, 0, 0, 0, 0, 0, 0, 0, 1, 1, 0, 0, 0, 0, 1, 55, 0, 0, 0, 0, 0, 0, 55, 0, 0, 0, 0, 0, 55, 55, 0, 56, 0, 0, 1, 1, 0, 1, 1, 1, 1, 1, 55, 55, 1, 1, 1, 1, 60, 1, 60, 0, 60, 0, 1, 60, 1, 4, 4, 4, 4, 4, 4, 4, 5, 0, 5, 5, 1, 0, 1, 7, 0, 7, 7, 7, 69, 7, 7, 6, 6, 6, 37, 0, 0, 0, 0, 0, 0, 37, 0, 0, 0, 0, 0, 0, 0, 0, 0, 0, 0, 0, 0, 0, 0, 0, 0, 1, 1, 0, 0, 0, 0, 1, 38, 0, 0, 0, 0, 0, 0, 38, 0, 0, 0, 0, 0, 38, 38, 0, 39, 0, 0, 1, 1, 0, 1, 1, 1, 1, 1, 38, 38, 1, 1, 1, 1, 3, 1, 3, 0, 3, 0, 1, 3, 1, 7, 7, 7, 7, 7, 7, 7, 8, 0, 8, 8, 1, 0, 1, 10, 0, 10, 10, 10, 72, 10, 10, 1, 1, 5, 5, 0, 5, 1, 0, 3, 3, 0, 3, 3, 3, 8, 3, 3, 1, 1, 0, 0, 1, 0, 0, 63, 1, 63, 0, 0, 0, 0, 0, 0, 0, 0, 0, 0, 0, 0, 0, 0, 0, 63, 0, 63, 0, 0, 0, 0, 0, 0, 0, 63, 63, 0, 51, 0, 3, 3, 3, 3, 4, 0, 4, 4, 4, 9, 4, 4, 1, 89, 89, 4, 4, 4, 89, 89, 0, 1, 7, 1, 7, 0, 7, 1, 7, 1, 1, 7, 1, 5, 2, 5, 0, 5, 1, 2, 5, 2, 0, 0, 0, 7, 1, 7, 1, 0, 0, 91, 84, 0, 0, 0, 0, 0, 0, 0, 0, 0, 0, 0, 84, 0, 84, 0, 0, 0, 0, 0, 84, 84, 0, 85, 0, 0, 76, 0, 76, 76, 0, 0, 91, 0, 0, 7, 0, 7, 7, 0, 0, 91, 0, 0, 91, 0, 0, 0, 0, 0, 0, 1, 1, 1, 1, 0, 2, 0, 1, 0, 0, 0, 0, 1, 1, 0, 1, 0, 0, 0, 0, 0, 0, 0, 0, 0, 0, 0, 0, 0, 0, 0, 0, 0, 0, 0, 0, 0, 1, 0, 1, 0, 0, 0, 0, 0, 0, 0, 0, 0, 1, 1, 1, 1, 1, 1, 0, 0, 0, 0, 0, 0, 0, 1, 0, 0, 0, 0, 1, 1, 0, 1, 0, 5, 5, 0, 1, 1, 1, 1, 1, 1, 1, 0, 1, 1, 1, 1, 0, 0, 0, 5, 0, 3, 4, 5, 5, 1, 5, 5, 5, 6, 0, 7, 7, 1, 1, 1, 1, 1, 2, 3, 0, 3, 8, 8, 8, 8, 6, 9, 0, 0, 0, 0, 0, 0, 9, 0, 9, 0, 9, 0, 0, 0, 0, 0, 9, 0, 10, 10, 10, 11, 11, 11, 0, 0, 0, 11, 0, 0, 0, 0, 11, 9, 0, 0, 0, 0, 0, 9, 0, 0, 0, 0, 0, 9, 0, 0, 0, 0, 0, 9, 10, 0, 0, 0, 0, 0, 0, 0, 0, 0, 0, 0, 0, 0, 0, 0, 0, 0, 0, 0, 0, 0, 0, 0, 0, 0, 0, 0, 0, 1, 1, 1, 1, 1, 1, 0, 0, 0, 0, 0, 0, 0, 1, 0, 0, 0, 0, 1, 1, 0, 1, 0, 0, 0, 1, 1, 1, 1, 1, 1, 1, 1, 0, 1, 1, 1, 1, 0, 0, 2, 2, 0, 0, 0, 0, 0, 0, 0, 0, 0, 0, 0, 0, 0, 0, 0, 0, 4, 4, 4, 4, 1, 0, 0, 0, 0, 0, 0, 1, 0, 1, 0, 1, 0, 0, 0, 0, 0, 1, 0, 2, 2, 2, 5, 2, 0, 0, 0, 0, 0, 0, 2, 0, 2, 0, 2, 0, 0, 0, 0, 0, 2, 0, 3, 3, 3, 5, 2, 0, 2, 0, 0, 0, 0, 0, 0, 2, 0, 2, 0, 0, 0, 0, 0, 0, 0, 0, 14, 0, 14, 14, 14, 16, 0, 0, 1, 1, 1, 1, 17, 17, 17, 0, 0, 0, 0, 17, 0, 0, 0, 0, 0, 0, 0, 0, 0, 0, 0, 0, 0, 0, 0, 0, 0, 0, 0, 0, 0, 0, 0, 0, 0, 0, 0, 0, 0, 1, 0, 1, 0, 0, 0, 0, 0, 0, 0, 0, 1, 0, 1, 0, 2, 2, 2, 2, 2, 0, 2, 2, 0, 2, 2, 20, 20, 21, 21, 112, 3, 3, 3, 1, 1, 3, 1, 1, 1, 22, 4, 4, 4, 1, 1, 0, 0, 0, 0, 0, 4, 0, 0, 4, 1, 1, 23, 23, 0, 0, 23, 0, 0, 1, 4, 0, 0, 0, 0, 0, 0, 0, 0, 4, 0, 4, 3, 0, 23, 0, 0, 23, 23, 23, 23, 114, 114, 0, 0, 114, 0, 1, 114, 0, 0, 114, 0, 1, 114, 0, 0, 1, 1, 0, 1, 1, 0, 1, 1, 0, 1, 1, 1, 2, 1, 1, 116, 116, 0, 116, 116, 0, 1, 0, 0, 0, 0, 1, 1, 1, 1, 0, 2, 0, 1, 0, 0, 0, 0, 1, 1, 0, 1, 0, 0, 0, 0, 0, 0, 0, 0, 0, 0, 0, 0, 0, 0, 0, 0, 0, 0, 0, 0, 0, 1, 0, 1, 0, 0, 0, 0, 0, 0, 0, 0, 0, 1, 1, 1, 1, 1, 1, 0, 0, 0, 0, 0, 0, 0, 1, 0, 0, 0, 0, 1, 1, 0, 1, 0, 5, 5, 0, 1, 1, 1, 1, 1, 1, 1, 0, 1, 1, 1, 1, 0, 0, 0, 5, 0, 3, 4, 5, 5, 1, 5, 5, 5, 6, 0, 7, 7, 1, 1, 1, 1, 1, 2, 3, 0, 3, 8, 8, 8, 8, 6, 9, 0, 0, 0, 0, 0, 0, 9, 0, 9, 0, 9, 0, 0, 0, 0, 0, 9, 0, 10, 10, 10, 11, 11, 11, 0, 1, 0, 11, 0, 1, 0, 0, 0, 11, 0, 1, 0, 0, 0, 0, 0, 0, 0, 0, 0, 0, 0, 0, 0, 0, 0, 0, 0, 0, 0, 0, 0, 0, 0, 0, 0, 0, 0, 1, 0, 1, 0, 0, 0, 0, 0, 0, 0, 0, 1, 0, 1, 0, 2, 2, 2, 2, 2, 0, 2, 2, 0, 2, 2, 14, 14, 15, 15, 131, 3, 3, 3, 1, 1, 3, 1, 1, 1, 16, 4, 4, 4, 1, 1, 0, 0, 0, 0, 0, 4, 0, 0, 4, 1, 1, 17, 17, 0, 0, 17, 0, 0, 1, 4, 0, 0, 0, 0, 0, 0, 0, 0, 4, 0, 4, 3, 0, 17, 0, 1, 17, 17, 17, 17, 1, 18, 0, 18, 18, 18, 19, 18, 18, 133, 133, 0, 133, 133, 0, 1, 0, 0, 0, 0, 1, 1, 1, 1, 0, 2, 0, 1, 0, 0, 0, 0, 1, 1, 0, 1, 0, 0, 0, 0, 0, 0, 0, 0, 0, 0, 0, 0, 0, 0, 0, 0, 0, 0, 0, 0, 0, 1, 0, 1, 0, 0, 0, 0, 0, 0, 0, 0, 0, 1, 1, 1, 1, 1, 1, 0, 0, 0, 0, 0, 0, 0, 1, 0, 0, 0, 0, 1, 1, 0, 1, 0, 5, 5, 0, 1, 1, 1, 1, 1, 1, 1, 0, 1, 1, 1, 1, 0, 0, 0, 5, 0, 3, 4, 5, 5, 1, 5, 5, 5, 6, 0, 7, 7, 1, 1, 1, 1, 1, 2, 3, 0, 3, 8, 8, 8, 8, 6, 9, 0, 0, 0, 0, 0, 0, 9, 0, 9, 0, 9, 0, 0, 0, 0, 0, 9, 0, 10, 10, 10, 11, 11, 11, 0, 1, 0, 11, 0, 1, 0, 0, 0, 11, 0, 1, 0, 0, 0, 0, 0, 0, 0, 0, 0, 0, 0, 0, 0, 0, 0, 0, 0, 0, 0, 0, 0, 0, 0, 0, 0, 0, 0, 1, 0, 1, 0, 0, 0, 0, 0, 0, 0, 0, 1, 0, 1, 0, 2, 2, 2, 2, 2, 0, 2, 2, 0, 2, 2, 14, 14, 15, 15, 148, 3, 3, 3, 1, 1, 3, 1, 1, 1, 16, 4, 4, 4, 1, 1, 0, 0, 0, 0, 0, 4, 0, 0, 4, 1, 1, 17, 17, 0, 0, 17, 0, 0, 1, 4, 0, 0, 0, 0, 0, 0, 0, 0, 4, 0, 4, 3, 0, 17, 0, 1, 17, 17, 17, 17, 1, 35, 0, 35, 35, 35, 36, 35, 35, 150, 150, 0, 150, 150, 0, 1, 0, 0, 0, 0, 1, 1, 1, 1, 0, 2, 0, 1, 0, 0, 0, 0, 1, 1, 0, 1, 0, 0, 0, 0, 0, 0, 0, 0, 0, 0, 0, 0, 0, 0, 0, 0, 0, 0, 0, 0, 0, 1, 0, 1, 0, 0, 0, 0, 0, 0, 0, 0, 0, 1, 1, 1, 1, 1, 1, 0, 0, 0, 0, 0, 0, 0, 1, 0, 0, 0, 0, 1, 1, 0, 1, 0, 5, 5, 0, 1, 1, 1, 1, 1, 1, 1, 0, 1, 1, 1, 1, 0, 0, 0, 5, 0, 3, 4, 5, 5, 1, 5, 5, 5, 6, 0, 7, 7, 1, 1, 1, 1, 1, 2, 3, 0, 3, 8, 8, 8, 8, 6, 9, 0, 0, 0, 0, 0, 0, 9, 0, 9, 0, 9, 0, 0, 0, 0, 0, 9, 0, 10, 10, 10, 11, 11, 11, 0, 1, 0, 11, 0, 1, 0, 0, 0, 11, 0, 1, 0, 0, 0, 0, 0, 0, 0, 0, 0, 0, 0, 0, 0, 0, 0, 0, 0, 0, 0, 0, 0, 0, 0, 0, 0, 0, 0, 1, 0, 1, 0, 0, 0, 0, 0, 0, 0, 0, 1, 0, 1, 0, 2, 2, 2, 2, 2, 0, 2, 2, 0, 2, 2, 14, 14, 15, 15, 165, 3, 3, 3, 1, 1, 3, 1, 1, 1, 16, 4, 4, 4, 1, 1, 0, 0, 0, 0, 0, 4, 0, 0, 4, 1, 1, 17, 17, 0, 0, 17, 0, 0, 1, 4, 0, 0, 0, 0, 0, 0, 0, 0, 4, 0, 4, 3, 0, 17, 0, 1, 17, 17, 17, 17, 1, 52, 0, 52, 52, 52, 53, 52, 52, 1]
section
variable (w : World) (f₁ f₂ f₃ : Bool) (h₀ : Heap) (g : Array GenState) (d : Drawn) (os : OsState) (F : FrD) (x : Nat) (r : List Nat) (yL IT : Nat) (q₁ q₂ : Nat) (bk : Value) (b t tb : Nat) (p₁ p₂ p₃ p₄ : Addr × Obj) (sk : Sk)
noncomputable def r_BPE : Out Fin :=
  innerRun w f₁ f₂ f₃ h₀ g d os (48 :: x :: r) [] (yL + 358) IT (.str (tS []) tb) ⟨b, t, [p₁, p₂, p₃, p₄, (yL + 358, lawFr { F with fig := (48 :: x :: r) } bk)], 358, 0, h_BPE, [], (tabs q₁ q₂), []⟩ sk
noncomputable def c_BPE : List Dsc := [
  .eq (tS (69 :: (120 :: (112 :: (101 :: (99 :: (116 :: (101 :: (100 :: (32 :: (115 :: (101 :: (99 :: (116 :: (105 :: (111 :: (110 :: (32 :: (98 :: (117 :: (116 :: (32 :: (102 :: (111 :: (117 :: (110 :: (100 :: (32 :: (40 :: (97 :: (41 :: (42 :: (48 :: (x :: r)))))))))))))))))))))))))))))))))) (tS (69 :: (120 :: (112 :: (101 :: (99 :: (116 :: (101 :: (100 :: (32 :: (115 :: (101 :: (99 :: (116 :: (105 :: (111 :: (110 :: (32 :: (98 :: (117 :: (116 :: (32 :: (102 :: (111 :: (117 :: (110 :: (100 :: (32 :: (40 :: (97 :: (41 :: (42 :: (48 :: (x :: r)))))))))))))))))))))))))))))))))),
  .fmt (27 + (tS (40 :: (97 :: (41 :: (42 :: (48 :: (x :: r))))))).length) (69 :: (120 :: (112 :: (101 :: (99 :: (116 :: (101 :: (100 :: (32 :: (115 :: (101 :: (99 :: (116 :: (105 :: (111 :: (110 :: (32 :: (98 :: (117 :: (116 :: (32 :: (102 :: (111 :: (117 :: (110 :: (100 :: (32 :: (40 :: (97 :: (41 :: (42 :: (48 :: (x :: r))))))))))))))))))))))))))))))))),
  .small (((tS (40 :: (97 :: (41 :: (42 :: (48 :: (x :: r))))))).length : Nat) : Int),
  .addr (b + (48 :: (x :: r)).length + 513) (b + (48 :: (x :: r)).length + 507),
  .add (tS (69 :: (120 :: (112 :: (101 :: (99 :: (116 :: (101 :: (100 :: (32 :: (115 :: (101 :: (99 :: (116 :: (105 :: (111 :: (110 :: (32 :: (98 :: (117 :: (116 :: (32 :: (102 :: (111 :: (117 :: (110 :: (100 :: (32 :: [])))))))))))))))))))))))))))) (tS (40 :: (97 :: (41 :: (42 :: (48 :: (x :: r))))))),
  .eq (tS (69 :: (120 :: (112 :: (101 :: (99 :: (116 :: (101 :: (100 :: (32 :: (115 :: (101 :: (99 :: (116 :: (105 :: (111 :: (110 :: (32 :: (98 :: (117 :: (116 :: (32 :: (102 :: (111 :: (117 :: (110 :: (100 :: (32 :: (32 :: (42 :: (48 :: (x :: r)))))))))))))))))))))))))))))))) (tS (69 :: (120 :: (112 :: (101 :: (99 :: (116 :: (101 :: (100 :: (32 :: (115 :: (101 :: (99 :: (116 :: (105 :: (111 :: (110 :: (32 :: (98 :: (117 :: (116 :: (32 :: (102 :: (111 :: (117 :: (110 :: (100 :: (32 :: (32 :: (42 :: (48 :: (x :: r)))))))))))))))))))))))))))))))),
  .fmt (27 + (tS (32 :: (42 :: (48 :: (x :: r))))).length) (69 :: (120 :: (112 :: (101 :: (99 :: (116 :: (101 :: (100 :: (32 :: (115 :: (101 :: (99 :: (116 :: (105 :: (111 :: (110 :: (32 :: (98 :: (117 :: (116 :: (32 :: (102 :: (111 :: (117 :: (110 :: (100 :: (32 :: (32 :: (42 :: (48 :: (x :: r))))))))))))))))))))))))))))))),
  .small (((tS (32 :: (42 :: (48 :: (x :: r))))).length : Nat) : Int),
  .addr (b + (48 :: (x :: r)).length + 496) (b + (48 :: (x :: r)).length + 490),
  .add (tS (69 :: (120 :: (112 :: (101 :: (99 :: (116 :: (101 :: (100 :: (32 :: (115 :: (101 :: (99 :: (116 :: (105 :: (111 :: (110 :: (32 :: (98 :: (117 :: (116 :: (32 :: (102 :: (111 :: (117 :: (110 :: (100 :: (32 :: [])))))))))))))))))))))))))))) (tS (32 :: (42 :: (48 :: (x :: r))))),
  .eq (tS (69 :: (120 :: (112 :: (101 :: (99 :: (116 :: (101 :: (100 :: (32 :: (115 :: (101 :: (99 :: (116 :: (105 :: (111 :: (110 :: (32 :: (98 :: (117 :: (116 :: (32 :: (102 :: (111 :: (117 :: (110 :: (100 :: (32 :: (48 :: (x :: r)))))))))))))))))))))))))))))) (tS (69 :: (120 :: (112 :: (101 :: (99 :: (116 :: (101 :: (100 :: (32 :: (115 :: (101 :: (99 :: (116 :: (105 :: (111 :: (110 :: (32 :: (98 :: (117 :: (116 :: (32 :: (102 :: (111 :: (117 :: (110 :: (100 :: (32 :: (48 :: (x :: r)))))))))))))))))))))))))))))),
  .fmt (27 + (tS (48 :: (x :: r))).length) (69 :: (120 :: (112 :: (101 :: (99 :: (116 :: (101 :: (100 :: (32 :: (115 :: (101 :: (99 :: (116 :: (105 :: (111 :: (110 :: (32 :: (98 :: (117 :: (116 :: (32 :: (102 :: (111 :: (117 :: (110 :: (100 :: (32 :: (48 :: (x :: r))))))))))))))))))))))))))))),
  .small (((tS (48 :: (x :: r))).length : Nat) : Int),
  .addr (b + (48 :: (x :: r)).length + 479) (b + (48 :: (x :: r)).length + 473),
  .add (tS (69 :: (120 :: (112 :: (101 :: (99 :: (116 :: (101 :: (100 :: (32 :: (115 :: (101 :: (99 :: (116 :: (105 :: (111 :: (110 :: (32 :: (98 :: (117 :: (116 :: (32 :: (102 :: (111 :: (117 :: (110 :: (100 :: (32 :: [])))))))))))))))))))))))))))) (tS (48 :: (x :: r))),
  .add (tS (40 :: (97 :: (41 :: (42 :: []))))) (tS (48 :: (x :: r))),
  .add (tS (32 :: (42 :: []))) (tS (48 :: (x :: r))),
  .addr (b + (48 :: (x :: r)).length + 454) (b + (48 :: (x :: r)).length + 448),
  .diff (.str (tS (115 :: (101 :: (99 :: (116 :: (105 :: (111 :: (110 :: (32 :: (110 :: (117 :: (109 :: (98 :: (101 :: (114 :: (32 :: (104 :: (97 :: (115 :: (32 :: (97 :: (110 :: (32 :: (105 :: (110 :: (118 :: (97 :: (108 :: (105 :: (100 :: (32 :: (108 :: (101 :: (97 :: (100 :: (105 :: (110 :: (103 :: (32 :: (48 :: [])))))))))))))))))))))))))))))))))))))))) ((lpT true (48 :: (x :: r)) (List.isEmpty ([] : List Nat)) (t + 38) (t + 30) (t + 36)).1 + 5)) (.str (tS (115 :: (101 :: (99 :: (116 :: (105 :: (111 :: (110 :: (32 :: (110 :: (117 :: (109 :: (98 :: (101 :: (114 :: (32 :: (104 :: (97 :: (115 :: (32 :: (97 :: (110 :: (32 :: (105 :: (110 :: (118 :: (97 :: (108 :: (105 :: (100 :: (32 :: (108 :: (101 :: (97 :: (100 :: (105 :: (110 :: (103 :: (32 :: (48 :: [])))))))))))))))))))))))))))))))))))))))) ((lpT true (48 :: (x :: r)) (List.isEmpty ([] : List Nat)) (t + 38) (t + 30) (t + 36)).1 + 87)),
  .diff (.ref (b + (48 :: (x :: r)).length + 439)) (.ref (b + (48 :: (x :: r)).length + 442)),
  .gt F.kk 0,
  .addr (b + (48 :: (x :: r)).length + 430) (b + (48 :: (x :: r)).length + 393),
  .addr (b + (48 :: (x :: r)).length + 427) (b + 373),
  .eq (tS (42 :: (48 :: (x :: r)))) (tS (42 :: (48 :: (x :: r)))),
  .add (tS (42 :: [])) (tS (48 :: (x :: r))),
  .join (tS (42 :: [])) (tS []) (tS (48 :: (x :: r))),
  .small (((tS (48 :: (x :: r))).length : Nat) : Int),
  .addr (b + (48 :: (x :: r)).length + 412) (b + (48 :: (x :: r)).length + 411),
  .eq (tS (digs ((PySem.intText? (tS (48 :: x :: r))).getD 0))) (tS (digs F.n)),
  .repr F.n,
  .repr ((PySem.intText? (tS (48 :: (x :: r)))).getD 0),
  .eq (tS (48 :: (x :: r))) (tS (48 :: (x :: r))),
  .diff (.str (tS (48 :: (x :: r))) ((lpT true (48 :: (x :: r)) (List.isEmpty ([] : List Nat)) (t + 38) (t + 30) (t + 36)).1 + 37)) (.str (tS (48 :: (x :: r))) (F.k 13)),
  .diff (.str (tS (100 :: (105 :: (103 :: (105 :: (116 :: (115 :: []))))))) ((lpT true (48 :: (x :: r)) (List.isEmpty ([] : List Nat)) (t + 38) (t + 30) (t + 36)).1 + 18)) (.str (tS (100 :: (105 :: (103 :: (105 :: (116 :: (115 :: []))))))) ((lpT true (48 :: (x :: r)) (List.isEmpty ([] : List Nat)) (t + 38) (t + 30) (t + 36)).1 + 40)),
  .diff (.ref (b + (48 :: (x :: r)).length + 402)) (.ref (b + (48 :: (x :: r)).length + 406)),
  .diff (.str (tS (42 :: [])) ((lpT true (48 :: (x :: r)) (List.isEmpty ([] : List Nat)) (t + 38) (t + 30) (t + 36)).1 + 34)) (.str (tS (42 :: [])) ((lpT true (48 :: (x :: r)) (List.isEmpty ([] : List Nat)) (t + 38) (t + 30) (t + 36)).1 + 39)),
  .diff (.str (tS (115 :: (101 :: (99 :: (116 :: (105 :: (111 :: (110 :: (45 :: (109 :: (97 :: (114 :: (107 :: (101 :: (114 :: []))))))))))))))) (t + 17)) (.str (tS (115 :: (101 :: (99 :: (116 :: (105 :: (111 :: (110 :: (45 :: (109 :: (97 :: (114 :: (107 :: (101 :: (114 :: []))))))))))))))) ((lpT true (48 :: (x :: r)) (List.isEmpty ([] : List Nat)) (t + 38) (t + 30) (t + 36)).1 + 38)),
  .diff (.ref (b + (48 :: (x :: r)).length + 401)) (.ref (b + (48 :: (x :: r)).length + 405)),
  .str (tS (48 :: (x :: r))),
  .str (tS (48 :: (x :: r))),
  .txt (tS (48 :: (x :: r))),
  .addr (b + (48 :: (x :: r)).length + 383) (b + (48 :: (x :: r)).length + 377),
  .ne (tS (48 :: (x :: r))) (tS (48 :: [])),
  .code (lp w f₁ f₂ f₃ (b + 358)) (lp w f₁ f₂ f₃ (b + 358)),
  .eq (tS (48 :: (x :: r))) (tS ((48 :: (x :: r)) ++ [])),
  .le 358 (b + 358),
  .le 358 (b + 375),
  .small (((tS (48 :: (x :: r))).length : Nat) : Int),
  .size (48 :: (x :: r)),
  .small (((tS (42 :: (48 :: (x :: r)))).length : Nat) : Int),
  .addr (b + 367) (b + 361),
  .add (tS (42 :: [])) (tS (48 :: (x :: r)))]
theorem t_BPE : (r_BPE w f₁ f₂ f₃ h₀ g d os F x r yL IT q₁ q₂ bk b t tb p₁ p₂ p₃ p₄ sk).sum [164, 165, 166, 167, 168] =
    some (.again (innerC (KT w f₁ f₂ f₃) (yL + 358) IT), [some p₁, some p₂, some p₃, some p₄, some (yL + 358, lawFr (FrD.turn { F with fig := (48 :: x :: r) } [] (40 :: (97 :: (41 :: (42 :: (48 :: (x :: r)))))) (.ref (b + 360)) (.ref (b + (48 :: (x :: r)).length + 437)) tb (lpT true (48 :: (x :: r)) (List.isEmpty ([] : List Nat)) (t + 38) (t + 30) (t + 36)).2.1 ((lpT true (48 :: (x :: r)) (List.isEmpty ([] : List Nat)) (t + 38) (t + 30) (t + 36)).1 + 135)) bk)], ((b + (48 :: (x :: r)).length), (lpT true (48 :: (x :: r)) (List.isEmpty ([] : List Nat)) (t + 38) (t + 30) (t + 36)).1, 522, 202, tabs q₁ q₂, [.finished, .finished]), [], (c_BPE w f₁ f₂ f₃ F x r b t), (r_BPE w f₁ f₂ f₃ h₀ g d os F x r yL IT q₁ q₂ bk b t tb p₁ p₂ p₃ p₄ sk).rt) := by
  cases f₁ <;> kernel_rfl
end
end Mine

namespace Mine
noncomputable def h_BHY : List Nat := [5, 5, 0, 5, 0, 1, 5, 0, 1, 0, 0, 0, 0, 1, 1, 0, 1, 0, 0, 0, 0, 0, 0, 0, 0, 0, 0, 0, 0, 0, 0, 0, 0, 0, 0, 0, 0, 0, 1, 0, 1, 0, 0, 0, 0, 0, 0, 0, 0, 0, 1, 1, 1, 1, 1, 1, 0, 0, 0, 0, 0, 0, 0, 1, 0, 0, 0, 0, 1, 1, 0, 1, 0, 5, 5, 0, 1, 1, 1, 1, 1, 1, 1, 0, 1, 1, 1, 1, 0, 0, 0, 5, 0, 3, 4, 5, 5, 1, 5, 5, 5, 6, 0, 7, 7, 1, 1, 1, 1, 1, 2, 3, 0, 3, 8, 8, 8, 8, 6, 9, 0, 0, 0, 0, 0, 0, 9, 0, 9, 0, 9, 0, 0, 0, 0, 0, 9, 0, 10, 10, 10, 11, 11, 11, 0, 1, 0, 11, 0, 1, 0, 0, 11, 9, 0, 0, 0, 0, 0, 9, 0, 0, 0, 0, 0, 9, 0, 0, 0, 0, 0, 9, 10, 0, 0, 0, 0, 0, 0, 0, 0, 0, 0, 0, 0, 0, 0, 0, 0, 0, 0, 0, 0, 0, 0, 0, 0, 0, 0, 0, 0, 1, 1, 1, 1, 1, 1, 0, 0, 0, 0, 0, 0, 0, 1, 0, 0, 0, 0, 1, 1, 0, 1, 0, 0, 0, 1, 1, 1, 1, 1, 1, 1, 1, 0, 1, 1, 1, 1, 0, 0, 2, 2, 0, 0, 0, 0, 0, 0, 0, 0, 0, 0, 0, 0, 0, 0, 0, 0, 4, 4, 4, 4, 1, 0, 0, 0, 0, 0, 0, 1, 0, 1, 0, 1, 0, 0, 0, 0, 0, 1, 0, 2, 2, 2, 5, 2, 0, 0, 0, 0, 0, 0, 2, 0, 2, 0, 2, 0, 0, 0, 0, 0, 2, 0, 3, 3, 3, 5, 2, 0, 2, 0, 0, 0, 0, 0, 0, 2, 0, 2, 0, 0, 0, 0, 0, 0, 0, 0, 14, 0, 14, 14, 14, 16, 0, 1, 1, 1, 1, 1, 17, 17, 17, 0, 1, 0, 17, 0, 1, 0, 1, 17, 17, 1, 16, 17, 0, 1, 0, 2, 0, 0, 17, 0, 0, 1, 0, 17, 15, 0, 0, 0, 0, 0, 0, 15, 0, 15, 0, 15, 0, 0, 0, 15, 0, 16, 16, 16, 17, 15, 0, 0, 0, 0, 0, 15, 0, 0, 0, 0, 0, 15, 0, 0, 0, 0, 0, 15, 16, 0, 17, 0, 0, 0, 0, 0, 0, 0, 0, 0, 0, 0, 0, 0, 0, 0, 0, 0, 0, 0, 0, 0, 0, 0, 0, 0, 0, 0, 1, 1, 1, 1, 1, 1, 0, 0, 0, 0, 0, 0, 0, 1, 0, 0, 0, 0, 1, 1, 0, 1, 0, 0, 0, 1, 1, 1, 1, 1, 1, 1, 1, 0, 1, 1, 1, 1, 0, 0, 2, 2, 0, 0, 0, 0, 0, 0, 0, 0, 0, 0, 0, 0, 1, 0, 0, 0, 4, 4, 4, 4, 1, 0, 0, 0, 0, 0, 0, 1, 0, 1, 0, 1, 0, 0, 0, 0, 0, 1, 0, 2, 2, 2, 5, 2, 0, 0, 0, 0, 0, 0, 2, 0, 2, 0, 2, 0, 0, 0, 0, 0, 2, 0, 3, 3, 3, 5, 2, 0, 2, 0, 0, 0, 0, 0, 0, 2, 0, 2, 0, 0, 0, 0, 0, 0, 0, 0, 20, 0, 20, 20, 20, 22, 22, 1, 1, 1, 0, 1, 1, 1, 0, 1, 1, 1, 2, 1, 1, 1, 0, 1, 1, 1, 2, 1, 1, 1, 0, 1, 1, 1, 2, 1, 1, 1, 31, 31, 31, 31, 31, 24, 0, 0, 0, 0, 0, 24, 0, 0, 0, 0, 0, 0, 24, 0, 1, 0, 3, 3, 0, 3, 3, 3, 27, 3, 3, 1, 1, 1, 15, 0, 0, 0, 0, 0, 0, 15, 0, 0, 0, 0, 0, 15, 15, 0, 16, 0, 0, 1, 0, 0, 1, 15, 0, 0, 0, 0, 0, 0, 15, 0, 0, 15, 0, 0, 3, 3, 3, 3, 4, 0, 4, 4, 4, 28, 4, 4, 2, 2, 2, 10, 0, 0, 0, 0, 0, 0, 10, 0, 0, 0, 0, 0, 10, 10, 0, 11, 0, 0, 2, 0, 0, 1, 10, 0, 0, 0, 0, 0, 0, 10, 0, 1, 10, 0, 0, 4, 4, 4, 4, 5, 0, 5, 5, 5, 29, 5, 5, 1, 5, 5, 5, 39, 9, 1, 9, 0, 9, 1, 9, 1, 1, 9, 1, 7, 3, 7, 0, 7, 1, 3, 7, 3, 0, 0, 0, 0, 1, 9, 1, 6, 2, 6, 0, 6, 1, 2, 6, 2, 0, 0, 0, 1, 0, 9, 1, 9, 1, 0, 0, 41, 34, 0, 0, 0, 0, 0, 0, 0, 0, 0, 0, 0, 34, 0, 34, 0, 0, 0, 34, 34, 0, 35, 0, 0, 1, 0, 0, 41, 0, 0, 1, 0, 1, 41, 34, 0, 0, 0, 0, 0, 0, 0, 0, 0, 0, 0, 34, 0, 34, 0, 0, 0, 0, 0, 0, 0, 0, 0, 0, 0, 0, 1, 1, 0, 3, 1, 35, 0, 0, 0, 0, 0, 35, 0, 0, 0, 0, 0, 0, 35, 0, 1, 0, 0, 1001, 0, 0, 1, 1, 0, 1, 1, 1, 1, 0, 1, 1, 0, 2, 2, 2, 0, 2, 2, 2, 2, 1, 1, 1, 1, 1, 1, 2, 0, 2, 2, 0, 0, 0, 4, 4, 0, 4, 4, 4, 39, 4, 4, 3, 3, 3, 27, 0, 0, 0, 0, 0, 0, 27, 0, 0, 0, 0, 0, 0, 0, 0, 0, 0, 0, 0, 0, 0, 0, 1, 1, 0, 0, 1, 28, 0, 0, 0, 0, 0, 28, 0, 0, 0, 0, 0, 0, 0, 28, 0, 0, 0, 0, 0, 0, 28, 0, 28, 4, 28, 0, 0, 0, 0, 0, 0, 28, 0, 0, 0, 0, 0, 0, 0, 0, 0, 0, 0, 0, 0, 0, 0, 1, 1, 0, 0, 1, 3, 3, 3, 4, 0, 4, 4, 0, 0, 0, 6, 0, 6, 6, 6, 41, 6, 6, 5, 5, 5, 23, 0, 0, 0, 0, 0, 0, 23, 0, 0, 0, 0, 0, 0, 0, 0, 0, 0, 0, 0, 0, 0, 0, 1, 1, 0, 0, 1, 24, 0, 0, 0, 0, 0, 24, 0, 0, 0, 0, 0, 0, 1, 24, 0, 0, 0, 0, 0, 0, 24, 0, 24, 6, 24, 0, 0, 0, 0, 0, 0, 24, 0, 0, 0, 0, 0, 0, 0, 0, 0, 0, 0, 0, 0, 0, 0, 1, 1, 0, 0, 1, 5, 5, 5, 6, 0, 6, 6, 0, 0, 0, 8, 0, 8, 8, 8, 43, 8, 8, 1, 1, 9, 35, 29, 54, 0, 1, 0, 1, 54, 54, 0, 1, 54, 47, 0, 0, 0, 0, 0, 0, 0, 0, 0, 0, 0, 47, 0, 47, 0, 0, 0, 47, 47, 0, 48, 0, 0, 54, 47, 0, 0, 0, 0, 0, 0, 0, 0, 0, 0, 0, 47, 0, 47, 0, 0, 0, 0, 0, 0, 0, 0, 0, 0, 0, 0, 1, 1, 0, 3, 0, 0, 1, 48, 0, 0, 0, 0, 0, 48, 0, 0, 0, 0, 0, 0, 48, 0, 1, 0, 0, 1002, 0, 0, 1, 1, 4, 51, 0, 0, 0, 0, 0, 0, 0, 0, 0, 0, 0, 51, 0, 51, 0, 0, 0, 0, 0, 51, 51, 0, 52, 0, 1, 1, 0, 1, 1, 43, 43, 43, 1, 2, 0, 2, 2, 1, 0, 1, 4, 4, 0, 4, 4, 4, 52, 4, 4, 3, 3, 3, 40, 0, 0, 0, 0, 0, 0, 40, 0, 0, 0, 0, 0, 0, 0, 0, 0, 0, 0, 0, 0, 0, 0, 0, 0, 1, 1, 0, 0, 0, 0, 1, 41, 0, 0, 0, 0, 0, 0, 41, 0, 0, 0, 0, 0, 41, 41, 0, 42, 0, 0, 1, 1, 0, 1, 1, 1, 1, 1, 41, 41, 1, 1, 1, 1, 46, 1, 46, 0, 46, 0, 1, 46, 1, 4, 4, 4, 4, 4, 4, 4, 5, 0, 5, 5, 1, 0, 1, 7, 0, 7, 7, 7, 55, 7, 7, 6, 6, 6, 37, 0, 0, 0, 0, 0, 0, 37, 0, 0, 0, 0, 0, 0, 0, 0, 0, 0, 0, 0, 0, 0, 0, 0, 0, 1, 1, 0, 0, 0, 0, 1, 38, 0, 0, 0, 0, 0, 0, 38, 0, 0, 0, 0, 0, 38, 38, 0, 39, 0, 0, 1, 1, 0, 1, 1, 1, 1, 1, 38, 38, 1, 1, 1, 1, 3, 1, 3, 0, 3, 0, 1, 3, 1, 7, 7, 7, 7, 7, 7, 7, 8, 0, 8, 8, 1, 0, 1, 10, 0, 10, 10, 10, 58, 10, 10, 1, 1, 5, 5, 0, 5, 1, 0, 3, 3, 0, 3, 3, 3, 8, 3, 3, 1, 74, 74, 3, 74, 74, 0, 0, 5, 1, 5, 0, 5, 1, 5, 1, 0, 5, 1, 5, 1, 0, 0, 75, 68, 0, 0, 0, 0, 0, 0, 0, 0, 0, 0, 0, 68, 0, 68, 0, 0, 0, 0, 0, 68, 68, 0, 69, 0, 0, 60, 0, 60, 60, 0, 0, 75, 0, 0, 5, 0, 5, 5, 0, 0, 75, 0, 1, 75, 0, 1, 0, 0, 0, 0, 1, 1, 1, 1, 0, 2, 0, 1, 0, 0, 0, 0, 1, 1, 0, 1, 0, 0, 0, 0, 0, 0, 0, 0, 0, 0, 0, 0, 0, 0, 0, 0, 0, 0, 0, 0, 0, 1, 0, 1, 0, 0, 0, 0, 0, 0, 0, 0, 0, 1, 1, 1, 1, 1, 1, 0, 0, 0, 0, 0, 0, 0, 1, 0, 0, 0, 0, 1, 1, 0, 1, 0, 5, 5, 0, 1, 1, 1, 1, 1, 1, 1, 0, 1, 1, 1, 1, 0, 0, 0, 5, 0, 3, 4, 5, 5, 1, 5, 5, 5, 6, 0, 7, 7, 1, 1, 1, 1, 1, 2, 3, 0, 3, 8, 8, 8, 8, 6, 9, 0, 0, 0, 0, 0, 0, 9, 0, 9, 0, 9, 0, 0, 0, 0, 0, 9, 0, 10, 10, 10, 11, 11, 11, 0, 1, 0, 11, 0, 1, 0, 0, 11, 9, 0, 0, 0, 0, 0, 9, 0, 0, 0, 0, 0, 9, 0, 0, 0, 0, 0, 9, 10, 0, 0, 0, 0, 0, 0, 0, 0, 0, 0, 0, 0, 0, 0, 0, 0, 0, 0, 0, 0, 0, 0, 0, 0, 0, 0, 0, 0, 1, 1, 1, 1, 1, 1, 0, 0, 0, 0, 0, 0, 0, 1, 0, 0, 0, 0, 1, 1, 0, 1, 0, 0, 0, 1, 1, 1, 1, 1, 1, 1, 1, 0, 1, 1, 1, 1, 0, 0, 2, 2, 0, 0, 0, 0, 0, 0, 0, 0, 0, 0, 0, 0, 0, 0, 0, 0, 4, 4, 4, 4, 1, 0, 0, 0, 0, 0, 0, 1, 0, 1, 0, 1, 0, 0, 0, 0, 0, 1, 0, 2, 2, 2, 5, 2, 0, 0, 0, 0, 0, 0, 2, 0, 2, 0, 2, 0, 0, 0, 0, 0, 2, 0, 3, 3, 3, 5, 2, 0, 2, 0, 0, 0, 0, 0, 0, 2, 0, 2, 0, 0, 0, 0, 0, 0, 0, 0, 14, 0, 14, 14, 14, 16, 0, 1, 1, 1, 1, 1, 17, 17, 17, 0, 1, 0, 17, 0, 1, 0, 2, 0, 17, 0, 1, 0, 0, 0, 0, 0, 0, 0, 0, 0, 0, 0, 0, 0, 0, 0, 0, 0, 0, 0, 0, 0, 0, 0, 0, 0, 0, 0, 1, 0, 1, 0, 0, 0, 0, 0, 0, 0, 0, 1, 0, 1, 0, 2, 2, 2, 2, 2, 0, 2, 2, 0, 2, 2, 20, 20, 21, 21, 96, 3, 3, 3, 1, 1, 3, 1, 1, 1, 22, 4, 4, 4, 1, 1, 0, 0, 0, 0, 0, 4, 0, 0, 4, 1, 1, 23, 23, 0, 0, 23, 0, 0, 1, 4, 0, 0, 0, 0, 0, 0, 0, 0, 4, 0, 4, 3, 0, 23, 0, 1, 23, 23, 23, 23, 98, 98, 0, 1, 98, 0, 1, 98, 0, 1, 98, 0, 1, 98, 0, 1, 1, 1, 0, 1, 1, 0, 1, 1, 0, 1, 1, 1, 2, 1, 1, 100, 100, 0, 100, 100, 0, 1, 0, 0, 0, 0, 1, 1, 1, 1, 0, 2, 0, 1, 0, 0, 0, 0, 1, 1, 0, 1, 0, 0, 0, 0, 0, 0, 0, 0, 0, 0, 0, 0, 0, 0, 0, 0, 0, 0, 0, 0, 0, 1, 0, 1, 0, 0, 0, 0, 0, 0, 0, 0, 0, 1, 1, 1, 1, 1, 1, 0, 0, 0, 0, 0, 0, 0, 1, 0, 0, 0, 0, 1, 1, 0, 1, 0, 5, 5, 0, 1, 1, 1, 1, 1, 1, 1, 0, 1, 1, 1, 1, 0, 0, 0, 5, 0, 3, 4, 5, 5, 1, 5, 5, 5, 6, 0, 7, 7, 1, 1, 1, 1, 1, 2, 3, 0, 3, 8, 8, 8, 8, 6, 9, 0, 0, 0, 0, 0, 0, 9, 0, 9, 0, 9, 0, 0, 0, 0, 0, 9, 0, 10, 10, 10, 11, 11, 11, 0, 1, 0, 11, 0, 1, 0, 2, 0, 11, 0, 1, 0, 0, 0, 0, 0, 0, 0, 0, 0, 0, 0, 0, 0, 0, 0, 0, 0, 0, 0, 0, 0, 0, 0, 0, 0, 0, 0, 1, 0, 1, 0, 0, 0, 0, 0, 0, 0, 0, 1, 0, 1, 0, 2, 2, 2, 2, 2, 0, 2, 2, 0, 2, 2, 14, 14, 15, 15, 115, 3, 3, 3, 1, 1, 3, 1, 1, 1, 16, 4, 4, 4, 1, 1, 0, 0, 0, 0, 0, 4, 0, 0, 4, 1, 1, 17, 17, 0, 0, 17, 0, 0, 1, 4, 0, 0, 0, 0, 0, 0, 0, 0, 4, 0, 4, 3, 0, 17, 0, 1, 17, 17, 17, 17, 1, 18, 0, 18, 18, 18, 19, 18, 18, 117, 117, 0, 117, 117, 0, 1, 0, 0, 0, 0, 1, 1, 1, 1, 0, 2, 0, 1, 0, 0, 0, 0, 1, 1, 0, 1, 0, 0, 0, 0, 0, 0, 0, 0, 0, 0, 0, 0, 0, 0, 0, 0, 0, 0, 0, 0, 0, 1, 0, 1, 0, 0, 0, 0, 0, 0, 0, 0, 0, 1, 1, 1, 1, 1, 1, 0, 0, 0, 0, 0, 0, 0, 1, 0, 0, 0, 0, 1, 1, 0, 1, 0, 5, 5, 0, 1, 1, 1, 1, 1, 1, 1, 0, 1, 1, 1, 1, 0, 0, 0, 5, 0, 3, 4, 5, 5, 1, 5, 5, 5, 6, 0, 7, 7, 1, 1, 1, 1, 1, 2, 3, 0, 3, 8, 8, 8, 8, 6, 9, 0, 0, 0, 0, 0, 0, 9, 0, 9, 0, 9, 0, 0, 0, 0, 0, 9, 0, 10, 10, 10, 11, 11, 11, 0, 1, 0, 11, 0, 1, 0, 0, 0, 11, 0, 1, 0, 0, 0, 0, 0, 0, 0, 0, 0, 0, 0, 0, 0, 0, 0, 0, 0, 0, 0, 0, 0, 0, 0, 0, 0, 0, 0, 1, 0, 1, 0, 0, 0, 0, 0, 0, 0, 0, 1, 0, 1, 0, 2, 2, 2, 2, 2, 0, 2, 2, 0, 2, 2, 14, 14, 15, 15, 132, 3, 3, 3, 1, 1, 3, 1, 1, 1, 16, 4, 4, 4, 1, 1, 0, 0, 0, 0, 0, 4, 0, 0, 4, 1, 1, 17, 17, 0, 0, 17, 0, 0, 1, 4, 0, 0, 0, 0, 0, 0, 0, 0, 4, 0, 4, 3, 0, 17, 0, 1, 17, 17, 17, 17, 1, 35, 0, 35, 35, 35, 36, 35, 35, 134, 134, 0, 134, 134, 0, 1, 0, 0, 0, 0, 1, 1, 1, 1, 0, 2, 0, 1, 0, 0, 0, 0, 1, 1, 0, 1, 0, 0, 0, 0, 0, 0, 0, 0, 0, 0, 0, 0, 0, 0, 0, 0, 0, 0, 0, 0, 0, 1, 0, 1, 0, 0, 0, 0, 0, 0, 0, 0, 0, 1, 1, 1, 1, 1, 1, 0, 0, 0, 0, 0, 0, 0, 1, 0, 0, 0, 0, 1, 1, 0, 1, 0, 5, 5, 0, 1, 1, 1, 1, 1, 1, 1, 0, 1, 1, 1, 1, 0, 0, 0, 5, 0, 3, 4, 5, 5, 1, 5, 5, 5, 6, 0, 7, 7, 1, 1, 1, 1, 1, 2, 3, 0, 3, 8, 8, 8, 8, 6, 9, 0, 0, 0, 0, 0, 0, 9, 0, 9, 0, 9, 0, 0, 0, 0, 0, 9, 0, 10, 10, 10, 11, 11, 11, 0, 1, 0, 11, 0, 1, 0, 0, 0, 11, 0, 1, 0, 0, 0, 0, 0, 0, 0, 0, 0, 0, 0, 0, 0, 0, 0, 0, 0, 0, 0, 0, 0, 0, 0, 0, 0, 0, 0, 1, 0, 1, 0, 0, 0, 0, 0, 0, 0, 0, 1, 0, 1, 0, 2, 2, 2, 2, 2, 0, 2, 2, 0, 2, 2, 14, 14, 15, 15, 149, 3, 3, 3, 1, 1, 3, 1, 1, 1, 16, 4, 4, 4, 1, 1, 0, 0, 0, 0, 0, 4, 0, 0, 4, 1, 1, 17, 17, 0, 0, 17, 0, 0, 1, 4, 0, 0, 0, 0, 0, 0, 0, 0, 4, 0, 4, 3, 0, 17, 0, 1, 17, 17, 17, 17, 1, 52, 0, 52, 52, 52, 53, 52, 52, 1]
section
variable (w : World) (f₁ f₂ f₃ : Bool) (h₀ : Heap) (g : Array GenState) (d : Drawn) (os : OsState) (F : FrD) (x : Nat) (r : List Nat) (y : Nat) (ys : List Nat) (yL IT : Nat) (q₁ q₂ : Nat) (bk : Value) (b t tb : Nat) (p₁ p₂ p₃ p₄ : Addr × Obj) (sk : Sk)
noncomputable def r_BHY : Out Fin :=
  innerRun w f₁ f₂ f₃ h₀ g d os (x :: r) (y :: ys) (yL + 358) IT (.str (tS (y :: ys)) tb) ⟨b, t, [p₁, p₂, p₃, p₄, (yL + 358, lawFr { F with fig := (x :: r), kk := 0 } bk)], 358, 0, h_BHY, [], (tabs q₁ q₂), []⟩ sk
noncomputable def c_BHY : List Dsc := [
  .eq (tS (69 :: (120 :: (112 :: (101 :: (99 :: (116 :: (101 :: (100 :: (32 :: (115 :: (101 :: (99 :: (116 :: (105 :: (111 :: (110 :: (32 :: (98 :: (117 :: (116 :: (32 :: (102 :: (111 :: (117 :: (110 :: (100 :: (32 :: (40 :: (97 :: (41 :: (42 :: (x :: (r ++ (y :: ys))))))))))))))))))))))))))))))))))) (tS (69 :: (120 :: (112 :: (101 :: (99 :: (116 :: (101 :: (100 :: (32 :: (115 :: (101 :: (99 :: (116 :: (105 :: (111 :: (110 :: (32 :: (98 :: (117 :: (116 :: (32 :: (102 :: (111 :: (117 :: (110 :: (100 :: (32 :: (40 :: (97 :: (41 :: (42 :: (x :: (r ++ (y :: ys))))))))))))))))))))))))))))))))))),
  .fmt (27 + (tS (40 :: (97 :: (41 :: (42 :: (x :: (r ++ (y :: ys)))))))).length) (69 :: (120 :: (112 :: (101 :: (99 :: (116 :: (101 :: (100 :: (32 :: (115 :: (101 :: (99 :: (116 :: (105 :: (111 :: (110 :: (32 :: (98 :: (117 :: (116 :: (32 :: (102 :: (111 :: (117 :: (110 :: (100 :: (32 :: (40 :: (97 :: (41 :: (42 :: (x :: (r ++ (y :: ys)))))))))))))))))))))))))))))))))),
  .small (((tS (40 :: (97 :: (41 :: (42 :: (x :: (r ++ (y :: ys)))))))).length : Nat) : Int),
  .addr (b + (x :: r).length + 497) (b + (x :: r).length + 491),
  .add (tS (69 :: (120 :: (112 :: (101 :: (99 :: (116 :: (101 :: (100 :: (32 :: (115 :: (101 :: (99 :: (116 :: (105 :: (111 :: (110 :: (32 :: (98 :: (117 :: (116 :: (32 :: (102 :: (111 :: (117 :: (110 :: (100 :: (32 :: [])))))))))))))))))))))))))))) (tS (40 :: (97 :: (41 :: (42 :: (x :: (r ++ (y :: ys)))))))),
  .eq (tS (69 :: (120 :: (112 :: (101 :: (99 :: (116 :: (101 :: (100 :: (32 :: (115 :: (101 :: (99 :: (116 :: (105 :: (111 :: (110 :: (32 :: (98 :: (117 :: (116 :: (32 :: (102 :: (111 :: (117 :: (110 :: (100 :: (32 :: (32 :: (42 :: (x :: (r ++ (y :: ys))))))))))))))))))))))))))))))))) (tS (69 :: (120 :: (112 :: (101 :: (99 :: (116 :: (101 :: (100 :: (32 :: (115 :: (101 :: (99 :: (116 :: (105 :: (111 :: (110 :: (32 :: (98 :: (117 :: (116 :: (32 :: (102 :: (111 :: (117 :: (110 :: (100 :: (32 :: (32 :: (42 :: (x :: (r ++ (y :: ys))))))))))))))))))))))))))))))))),
  .fmt (27 + (tS (32 :: (42 :: (x :: (r ++ (y :: ys)))))).length) (69 :: (120 :: (112 :: (101 :: (99 :: (116 :: (101 :: (100 :: (32 :: (115 :: (101 :: (99 :: (116 :: (105 :: (111 :: (110 :: (32 :: (98 :: (117 :: (116 :: (32 :: (102 :: (111 :: (117 :: (110 :: (100 :: (32 :: (32 :: (42 :: (x :: (r ++ (y :: ys)))))))))))))))))))))))))))))))),
  .small (((tS (32 :: (42 :: (x :: (r ++ (y :: ys)))))).length : Nat) : Int),
  .addr (b + (x :: r).length + 480) (b + (x :: r).length + 474),
  .add (tS (69 :: (120 :: (112 :: (101 :: (99 :: (116 :: (101 :: (100 :: (32 :: (115 :: (101 :: (99 :: (116 :: (105 :: (111 :: (110 :: (32 :: (98 :: (117 :: (116 :: (32 :: (102 :: (111 :: (117 :: (110 :: (100 :: (32 :: [])))))))))))))))))))))))))))) (tS (32 :: (42 :: (x :: (r ++ (y :: ys)))))),
  .eq (tS (69 :: (120 :: (112 :: (101 :: (99 :: (116 :: (101 :: (100 :: (32 :: (115 :: (101 :: (99 :: (116 :: (105 :: (111 :: (110 :: (32 :: (98 :: (117 :: (116 :: (32 :: (102 :: (111 :: (117 :: (110 :: (100 :: (32 :: (x :: (r ++ (y :: ys))))))))))))))))))))))))))))))) (tS (69 :: (120 :: (112 :: (101 :: (99 :: (116 :: (101 :: (100 :: (32 :: (115 :: (101 :: (99 :: (116 :: (105 :: (111 :: (110 :: (32 :: (98 :: (117 :: (116 :: (32 :: (102 :: (111 :: (117 :: (110 :: (100 :: (32 :: (x :: (r ++ (y :: ys))))))))))))))))))))))))))))))),
  .fmt (27 + (tS (x :: (r ++ (y :: ys)))).length) (69 :: (120 :: (112 :: (101 :: (99 :: (116 :: (101 :: (100 :: (32 :: (115 :: (101 :: (99 :: (116 :: (105 :: (111 :: (110 :: (32 :: (98 :: (117 :: (116 :: (32 :: (102 :: (111 :: (117 :: (110 :: (100 :: (32 :: (x :: (r ++ (y :: ys)))))))))))))))))))))))))))))),
  .ne (tS (x :: [])) (tS (42 :: [])),
  .small (((tS (x :: (r ++ (y :: ys)))).length : Nat) : Int),
  .addr (b + (x :: r).length + 463) (b + (x :: r).length + 457),
  .add (tS (69 :: (120 :: (112 :: (101 :: (99 :: (116 :: (101 :: (100 :: (32 :: (115 :: (101 :: (99 :: (116 :: (105 :: (111 :: (110 :: (32 :: (98 :: (117 :: (116 :: (32 :: (102 :: (111 :: (117 :: (110 :: (100 :: (32 :: [])))))))))))))))))))))))))))) (tS (x :: (r ++ (y :: ys)))),
  .add (tS (40 :: (97 :: (41 :: (42 :: (x :: r)))))) (tS (y :: ys)),
  .add (tS (40 :: (97 :: (41 :: (42 :: []))))) (tS (x :: r)),
  .add (tS (32 :: (42 :: (x :: r)))) (tS (y :: ys)),
  .add (tS (32 :: (42 :: []))) (tS (x :: r)),
  .add (tS (x :: r)) (tS (y :: ys)),
  .eq (tS (69 :: (120 :: (112 :: (101 :: (99 :: (116 :: (101 :: (100 :: (32 :: (115 :: (101 :: (99 :: (116 :: (105 :: (111 :: (110 :: (32 :: (110 :: (117 :: (109 :: (98 :: (101 :: (114 :: (32 :: (98 :: (117 :: (116 :: (32 :: (102 :: (111 :: (117 :: (110 :: (100 :: (32 :: (y :: ys)))))))))))))))))))))))))))))))))))) (tS (69 :: (120 :: (112 :: (101 :: (99 :: (116 :: (101 :: (100 :: (32 :: (115 :: (101 :: (99 :: (116 :: (105 :: (111 :: (110 :: (32 :: (110 :: (117 :: (109 :: (98 :: (101 :: (114 :: (32 :: (98 :: (117 :: (116 :: (32 :: (102 :: (111 :: (117 :: (110 :: (100 :: (32 :: (y :: ys)))))))))))))))))))))))))))))))))))),
  .fmt (34 + (tS (y :: ys)).length) (69 :: (120 :: (112 :: (101 :: (99 :: (116 :: (101 :: (100 :: (32 :: (115 :: (101 :: (99 :: (116 :: (105 :: (111 :: (110 :: (32 :: (110 :: (117 :: (109 :: (98 :: (101 :: (114 :: (32 :: (98 :: (117 :: (116 :: (32 :: (102 :: (111 :: (117 :: (110 :: (100 :: (32 :: (y :: ys))))))))))))))))))))))))))))))))))),
  .nodig (tS (y :: [])),
  .small (((tS (y :: ys)).length : Nat) : Int),
  .size (y :: ys),
  .small (((tS (42 :: (y :: ys))).length : Nat) : Int),
  .addr (b + (x :: r).length + 438) (b + (x :: r).length + 432),
  .add (tS (69 :: (120 :: (112 :: (101 :: (99 :: (116 :: (101 :: (100 :: (32 :: (115 :: (101 :: (99 :: (116 :: (105 :: (111 :: (110 :: (32 :: (110 :: (117 :: (109 :: (98 :: (101 :: (114 :: (32 :: (98 :: (117 :: (116 :: (32 :: (102 :: (111 :: (117 :: (110 :: (100 :: (32 :: []))))))))))))))))))))))))))))))))))) (tS (y :: ys)),
  .add (tS (42 :: [])) (tS (y :: ys)),
  .addr (b + (x :: r).length + 416) (b + (x :: r).length + 379),
  .addr (b + (x :: r).length + 413) (b + 373),
  .eq (tS (y :: ys)) (tS (y :: ys)),
  .eq (tS (42 :: (x :: r))) (tS (42 :: (x :: r))),
  .add (tS (42 :: [])) (tS (x :: r)),
  .join (tS (42 :: [])) (tS []) (tS (x :: r)),
  .small (((tS (x :: r)).length : Nat) : Int),
  .addr (b + (x :: r).length + 398) (b + (x :: r).length + 397),
  .eq (tS (digs ((PySem.intText? (tS (x :: r))).getD 0))) (tS (digs F.n)),
  .repr F.n,
  .repr ((PySem.intText? (tS (x :: r))).getD 0),
  .eq (tS (x :: r)) (tS (x :: r)),
  .diff (.str (tS (x :: r)) ((lpT true (x :: r) (List.isEmpty (y :: ys)) (t + 39) (t + 31) (t + 37)).1 + 25)) (.str (tS (x :: r)) (F.k 13)),
  .diff (.str (tS (100 :: (105 :: (103 :: (105 :: (116 :: (115 :: []))))))) ((lpT true (x :: r) (List.isEmpty (y :: ys)) (t + 39) (t + 31) (t + 37)).1 + 6)) (.str (tS (100 :: (105 :: (103 :: (105 :: (116 :: (115 :: []))))))) ((lpT true (x :: r) (List.isEmpty (y :: ys)) (t + 39) (t + 31) (t + 37)).1 + 28)),
  .diff (.ref (b + (x :: r).length + 388)) (.ref (b + (x :: r).length + 392)),
  .diff (.str (tS (42 :: [])) ((lpT true (x :: r) (List.isEmpty (y :: ys)) (t + 39) (t + 31) (t + 37)).1 + 22)) (.str (tS (42 :: [])) ((lpT true (x :: r) (List.isEmpty (y :: ys)) (t + 39) (t + 31) (t + 37)).1 + 27)),
  .diff (.str (tS (115 :: (101 :: (99 :: (116 :: (105 :: (111 :: (110 :: (45 :: (109 :: (97 :: (114 :: (107 :: (101 :: (114 :: []))))))))))))))) (t + 18)) (.str (tS (115 :: (101 :: (99 :: (116 :: (105 :: (111 :: (110 :: (45 :: (109 :: (97 :: (114 :: (107 :: (101 :: (114 :: []))))))))))))))) ((lpT true (x :: r) (List.isEmpty (y :: ys)) (t + 39) (t + 31) (t + 37)).1 + 26)),
  .diff (.ref (b + (x :: r).length + 387)) (.ref (b + (x :: r).length + 391)),
  .str (tS (x :: r)),
  .str (tS (x :: r)),
  .txt (tS (x :: r)),
  .ne (tS (x :: [])) (tS (48 :: [])),
  .code (lp w f₁ f₂ f₃ (b + 358)) (lp w f₁ f₂ f₃ (b + 358)),
  .eq (tS (x :: (r ++ (y :: ys)))) (tS ((x :: r) ++ (y :: ys))),
  .le 358 (b + 358),
  .le 358 (b + 375),
  .dig (tS (x :: [])),
  .small (((tS (x :: (r ++ (y :: ys)))).length : Nat) : Int),
  .size (x :: (r ++ (y :: ys))),
  .small (((tS (42 :: (x :: (r ++ (y :: ys))))).length : Nat) : Int),
  .addr (b + 367) (b + 361),
  .add (tS (42 :: (x :: r))) (tS (y :: ys)),
  .add (tS (42 :: [])) (tS (x :: r))]
theorem t_BHY : (r_BHY w f₁ f₂ f₃ h₀ g d os F x r y ys yL IT q₁ q₂ bk b t tb p₁ p₂ p₃ p₄ sk).sum [148, 149, 150, 151, 152] =
    some (.again (innerC (KT w f₁ f₂ f₃) (yL + 358) IT), [some p₁, some p₂, some p₃, some p₄, some (yL + 358, lawFr (FrD.turn { F with fig := (x :: r), kk := 0 } (y :: ys) (40 :: (97 :: (41 :: (42 :: (x :: (r ++ (y :: ys))))))) (.ref (b + 360)) (.ref (b + (x :: r).length + 423)) tb (lpT true (x :: r) (List.isEmpty (y :: ys)) (t + 39) (t + 31) (t + 37)).2.1 ((lpT true (x :: r) (List.isEmpty (y :: ys)) (t + 39) (t + 31) (t + 37)).1 + 127)) bk)], ((b + (x :: r).length), (lpT true (x :: r) (List.isEmpty (y :: ys)) (t + 39) (t + 31) (t + 37)).1, 506, 194, tabs q₁ q₂, [.finished, .finished]), [], (c_BHY w f₁ f₂ f₃ F x r y ys b t), (r_BHY w f₁ f₂ f₃ h₀ g d os F x r y ys yL IT q₁ q₂ bk b t tb p₁ p₂ p₃ p₄ sk).rt) := by
  cases f₁ <;> kernel_rfl
end
end Mine

namespace Mine
noncomputable def h_BHE : List Nat := [5, 5, 0, 5, 0, 1, 5, 0, 0, 0, 0, 0, 0, 1, 1, 0, 1, 0, 0, 0, 0, 0, 0, 0, 0, 0, 0, 0, 0, 0, 0, 0, 0, 0, 0, 0, 0, 0, 1, 0, 1, 0, 0, 0, 0, 0, 0, 0, 0, 0, 1, 1, 1, 1, 1, 1, 0, 0, 0, 0, 0, 0, 0, 1, 0, 0, 0, 0, 1, 1, 0, 1, 0, 5, 5, 0, 1, 1, 1, 1, 1, 1, 1, 0, 1, 1, 1, 1, 0, 0, 0, 5, 0, 3, 4, 5, 5, 1, 5, 5, 5, 6, 0, 7, 7, 1, 1, 1, 1, 1, 2, 3, 0, 3, 8, 8, 8, 8, 6, 9, 0, 0, 0, 0, 0, 0, 9, 0, 9, 0, 9, 0, 0, 0, 0, 0, 9, 0, 10, 10, 10, 11, 11, 11, 0, 1, 0, 11, 0, 1, 0, 0, 11, 9, 0, 0, 0, 0, 0, 9, 0, 0, 0, 0, 0, 9, 0, 0, 0, 0, 0, 9, 10, 0, 0, 0, 0, 0, 0, 0, 0, 0, 0, 0, 0, 0, 0, 0, 0, 0, 0, 0, 0, 0, 0, 0, 0, 0, 0, 0, 0, 1, 1, 1, 1, 1, 1, 0, 0, 0, 0, 0, 0, 0, 1, 0, 0, 0, 0, 1, 1, 0, 1, 0, 0, 0, 1, 1, 1, 1, 1, 1, 1, 1, 0, 1, 1, 1, 1, 0, 0, 2, 2, 0, 0, 0, 0, 0, 0, 0, 0, 0, 0, 0, 0, 0, 0, 0, 0, 4, 4, 4, 4, 1, 0, 0, 0, 0, 0, 0, 1, 0, 1, 0, 1, 0, 0, 0, 0, 0, 1, 0, 2, 2, 2, 5, 2, 0, 0, 0, 0, 0, 0, 2, 0, 2, 0, 2, 0, 0, 0, 0, 0, 2, 0, 3, 3, 3, 5, 2, 0, 2, 0, 0, 0, 0, 0, 0, 2, 0, 2, 0, 0, 0, 0, 0, 0, 0, 0, 14, 0, 14, 14, 14, 16, 0, 1, 1, 1, 1, 1, 17, 17, 17, 0, 1, 0, 17, 0, 1, 0, 1, 17, 17, 1, 16, 17, 0, 1, 0, 2, 0, 0, 17, 0, 0, 1, 0, 17, 15, 0, 0, 0, 0, 0, 0, 15, 0, 15, 0, 15, 0, 0, 0, 15, 0, 16, 16, 16, 17, 15, 0, 0, 0, 0, 0, 15, 0, 0, 0, 0, 0, 15, 0, 0, 0, 0, 0, 15, 16, 0, 17, 0, 0, 0, 0, 0, 0, 0, 0, 0, 0, 0, 0, 0, 0, 0, 0, 0, 0, 0, 0, 0, 0, 0, 0, 0, 0, 0, 1, 1, 1, 1, 1, 1, 0, 0, 0, 0, 0, 0, 0, 1, 0, 0, 0, 0, 1, 1, 0, 1, 0, 0, 0, 1, 1, 1, 1, 1, 1, 1, 1, 0, 1, 1, 1, 1, 0, 0, 2, 2, 0, 0, 0, 0, 0, 0, 0, 0, 0, 0, 0, 0, 1, 0, 0, 0, 4, 4, 4, 4, 1, 0, 0, 0, 0, 0, 0, 1, 0, 1, 0, 1, 0, 0, 0, 0, 0, 1, 0, 2, 2, 2, 5, 2, 0, 0, 0, 0, 0, 0, 2, 0, 2, 0, 2, 0, 0, 0, 0, 0, 2, 0, 3, 3, 3, 5, 2, 0, 2, 0, 0, 0, 0, 0, 0, 2, 0, 2, 0, 0, 0, 0, 0, 0, 0, 0, 20, 0, 20, 20, 20, 22, 22, 1, 1, 1, 0, 1, 1, 1, 0, 1, 1, 1, 2, 1, 1, 1, 0, 1, 1, 1, 2, 1, 1, 1, 0, 1, 1, 1, 2, 1, 1, 1, 31, 31, 31, 31, 31, 24, 0, 0, 0, 0, 0, 24, 0, 0, 0, 0, 0, 0, 24, 0, 1, 0, 3, 3, 0, 3, 3, 3, 27, 3, 3, 1, 1, 1, 15, 0, 0, 0, 0, 0, 0, 15, 0, 0, 0, 0, 0, 15, 15, 0, 16, 0, 0, 1, 0, 0, 1, 15, 0, 0, 0, 0, 0, 0, 15, 0, 0, 15, 0, 0, 3, 3, 3, 3, 4, 0, 4, 4, 4, 28, 4, 4, 2, 2, 2, 10, 0, 0, 0, 0, 0, 0, 10, 0, 0, 0, 0, 0, 10, 10, 0, 11, 0, 0, 2, 0, 0, 1, 10, 0, 0, 0, 0, 0, 0, 10, 0, 1, 10, 0, 0, 4, 4, 4, 4, 5, 0, 5, 5, 5, 29, 5, 5, 1, 5, 5, 5, 39, 9, 1, 9, 0, 9, 1, 9, 1, 1, 9, 1, 7, 3, 7, 0, 7, 1, 3, 7, 3, 0, 0, 0, 0, 1, 9, 1, 6, 2, 6, 0, 6, 1, 2, 6, 2, 0, 0, 0, 1, 0, 9, 1, 9, 1, 0, 0, 41, 34, 0, 0, 0, 0, 0, 0, 0, 0, 0, 0, 0, 34, 0, 34, 0, 0, 0, 34, 34, 0, 35, 0, 0, 1, 0, 0, 41, 0, 0, 1, 0, 1, 41, 34, 0, 0, 0, 0, 0, 0, 0, 0, 0, 0, 0, 34, 0, 34, 0, 0, 0, 0, 0, 0, 0, 0, 0, 0, 0, 0, 1, 1, 0, 3, 1, 35, 0, 0, 0, 0, 0, 35, 0, 0, 0, 0, 0, 0, 35, 0, 1, 0, 0, 1001, 0, 0, 1, 1, 0, 1, 1, 1, 1, 0, 1, 1, 0, 2, 2, 2, 0, 2, 2, 2, 2, 1, 1, 1, 1, 1, 1, 2, 0, 2, 2, 0, 0, 0, 4, 4, 0, 4, 4, 4, 39, 4, 4, 3, 3, 3, 27, 0, 0, 0, 0, 0, 0, 27, 0, 0, 0, 0, 0, 0, 0, 0, 0, 0, 0, 0, 0, 0, 0, 1, 1, 0, 0, 1, 28, 0, 0, 0, 0, 0, 28, 0, 0, 0, 0, 0, 0, 0, 28, 0, 0, 0, 0, 0, 0, 28, 0, 28, 4, 28, 0, 0, 0, 0, 0, 0, 28, 0, 0, 0, 0, 0, 0, 0, 0, 0, 0, 0, 0, 0, 0, 0, 1, 1, 0, 0, 1, 3, 3, 3, 4, 0, 4, 4, 0, 0, 0, 6, 0, 6, 6, 6, 41, 6, 6, 5, 5, 5, 23, 0, 0, 0, 0, 0, 0, 23, 0, 0, 0, 0, 0, 0, 0, 0, 0, 0, 0, 0, 0, 0, 0, 1, 1, 0, 0, 1, 24, 0, 0, 0, 0, 0, 24, 0, 0, 0, 0, 0, 0, 1, 24, 0, 0, 0, 0, 0, 0, 24, 0, 24, 6, 24, 0, 0, 0, 0, 0, 0, 24, 0, 0, 0, 0, 0, 0, 0, 0, 0, 0, 0, 0, 0, 0, 0, 1, 1, 0, 0, 1, 5, 5, 5, 6, 0, 6, 6, 0, 0, 0, 8, 0, 8, 8, 8, 43, 8, 8, 1, 1, 9, 35, 29, 54, 0, 1, 0, 1, 54, 54, 0, 0, 54, 47, 0, 0, 0, 0, 0, 0, 0, 0, 0, 0, 0, 47, 0, 47, 0, 0, 0, 47, 47, 0, 48, 0, 0, 54, 47, 0, 0, 0, 0, 0, 0, 0, 0, 0, 0, 0, 47, 0, 47, 0, 0, 0, 0, 0, 0, 0, 0, 0, 0, 0, 0, 1, 1, 0, 3, 0, 0, 1, 48, 0, 0, 0, 0, 0, 48, 0, 0, 0, 0, 0, 0, 48, 0, 1, 0, 0, 1002, 0, 0, 1, 1, 4, 51, 0, 0, 0, 0, 0, 0, 0, 0, 0, 0, 0, 51, 0, 51, 0, 0, 0, 0, 0, 51, 51, 0, 52, 0, 1, 1, 0, 1, 1, 43, 43, 43, 1, 2, 0, 2, 2, 1, 0, 1, 4, 4, 0, 4, 4, 4, 52, 4, 4, 3, 3, 3, 40, 0, 0, 0, 0, 0, 0, 40, 0, 0, 0, 0, 0, 0, 0, 0, 0, 0, 0, 0, 0, 0, 0, 0, 0, 1, 1, 0, 0, 0, 0, 1, 41, 0, 0, 0, 0, 0, 0, 41, 0, 0, 0, 0, 0, 41, 41, 0, 42, 0, 0, 1, 1, 0, 1, 1, 1, 1, 1, 41, 41, 1, 1, 1, 1, 46, 1, 46, 0, 46, 0, 1, 46, 1, 4, 4, 4, 4, 4, 4, 4, 5, 0, 5, 5, 1, 0, 1, 7, 0, 7, 7, 7, 55, 7, 7, 6, 6, 6, 37, 0, 0, 0, 0, 0, 0, 37, 0, 0, 0, 0, 0, 0, 0, 0, 0, 0, 0, 0, 0, 0, 0, 0, 0, 1, 1, 0, 0, 0, 0, 1, 38, 0, 0, 0, 0, 0, 0, 38, 0, 0, 0, 0, 0, 38, 38, 0, 39, 0, 0, 1, 1, 0, 1, 1, 1, 1, 1, 38, 38, 1, 1, 1, 1, 3, 1, 3, 0, 3, 0, 1, 3, 1, 7, 7, 7, 7, 7, 7, 7, 8, 0, 8, 8, 1, 0, 1, 10, 0, 10, 10, 10, 58, 10, 10, 1, 1, 5, 5, 0, 5, 1, 0, 3, 3, 0, 3, 3, 3, 8, 3, 3, 1, 74, 74, 3, 74, 74, 0, 0, 5, 1, 5, 0, 5, 1, 5, 1, 0, 5, 1, 5, 1, 0, 0, 75, 68, 0, 0, 0, 0, 0, 0, 0, 0, 0, 0, 0, 68, 0, 68, 0, 0, 0, 0, 0, 68, 68, 0, 69, 0, 0, 60, 0, 60, 60, 0, 0, 75, 0, 0, 5, 0, 5, 5, 0, 0, 75, 0, 0, 75, 0, 0, 0, 0, 0, 0, 1, 1, 1, 1, 0, 2, 0, 1, 0, 0, 0, 0, 1, 1, 0, 1, 0, 0, 0, 0, 0, 0, 0, 0, 0, 0, 0, 0, 0, 0, 0, 0, 0, 0, 0, 0, 0, 1, 0, 1, 0, 0, 0, 0, 0, 0, 0, 0, 0, 1, 1, 1, 1, 1, 1, 0, 0, 0, 0, 0, 0, 0, 1, 0, 0, 0, 0, 1, 1, 0, 1, 0, 5, 5, 0, 1, 1, 1, 1, 1, 1, 1, 0, 1, 1, 1, 1, 0, 0, 0, 5, 0, 3, 4, 5, 5, 1, 5, 5, 5, 6, 0, 7, 7, 1, 1, 1, 1, 1, 2, 3, 0, 3, 8, 8, 8, 8, 6, 9, 0, 0, 0, 0, 0, 0, 9, 0, 9, 0, 9, 0, 0, 0, 0, 0, 9, 0, 10, 10, 10, 11, 11, 11, 0, 0, 0, 11, 0, 0, 0, 0, 11, 9, 0, 0, 0, 0, 0, 9, 0, 0, 0, 0, 0, 9, 0, 0, 0, 0, 0, 9, 10, 0, 0, 0, 0, 0, 0, 0, 0, 0, 0, 0, 0, 0, 0, 0, 0, 0, 0, 0, 0, 0, 0, 0, 0, 0, 0, 0, 0, 1, 1, 1, 1, 1, 1, 0, 0, 0, 0, 0, 0, 0, 1, 0, 0, 0, 0, 1, 1, 0, 1, 0, 0, 0, 1, 1, 1, 1, 1, 1, 1, 1, 0, 1, 1, 1, 1, 0, 0, 2, 2, 0, 0, 0, 0, 0, 0, 0, 0, 0, 0, 0, 0, 0, 0, 0, 0, 4, 4, 4, 4, 1, 0, 0, 0, 0, 0, 0, 1, 0, 1, 0, 1, 0, 0, 0, 0, 0, 1, 0, 2, 2, 2, 5, 2, 0, 0, 0, 0, 0, 0, 2, 0, 2, 0, 2, 0, 0, 0, 0, 0, 2, 0, 3, 3, 3, 5, 2, 0, 2, 0, 0, 0, 0, 0, 0, 2, 0, 2, 0, 0, 0, 0, 0, 0, 0, 0, 14, 0, 14, 14, 14, 16, 0, 0, 1, 1, 1, 1, 17, 17, 17, 0, 0, 0, 0, 17, 0, 0, 0, 0, 0, 0, 0, 0, 0, 0, 0, 0, 0, 0, 0, 0, 0, 0, 0, 0, 0, 0, 0, 0, 0, 0, 0, 0, 0, 1, 0, 1, 0, 0, 0, 0, 0, 0, 0, 0, 1, 0, 1, 0, 2, 2, 2, 2, 2, 0, 2, 2, 0, 2, 2, 20, 20, 21, 21, 96, 3, 3, 3, 1, 1, 3, 1, 1, 1, 22, 4, 4, 4, 1, 1, 0, 0, 0, 0, 0, 4, 0, 0, 4, 1, 1, 23, 23, 0, 0, 23, 0, 0, 1, 4, 0, 0, 0, 0, 0, 0, 0, 0, 4, 0, 4, 3, 0, 23, 0, 0, 23, 23, 23, 23, 98, 98, 0, 0, 98, 0, 1, 98, 0, 0, 98, 0, 1, 98, 0, 0, 1, 1, 0, 1, 1, 0, 1, 1, 0, 1, 1, 1, 2, 1, 1, 100, 100, 0, 100, 100, 0, 1, 0, 0, 0, 0, 1, 1, 1, 1, 0, 2, 0, 1, 0, 0, 0, 0, 1, 1, 0, 1, 0, 0, 0, 0, 0, 0, 0, 0, 0, 0, 0, 0, 0, 0, 0, 0, 0, 0, 0, 0, 0, 1, 0, 1, 0, 0, 0, 0, 0, 0, 0, 0, 0, 1, 1, 1, 1, 1, 1, 0, 0, 0, 0, 0, 0, 0, 1, 0, 0, 0, 0, 1, 1, 0, 1, 0, 5, 5, 0, 1, 1, 1, 1, 1, 1, 1, 0, 1, 1, 1, 1, 0, 0, 0, 5, 0, 3, 4, 5, 5, 1, 5, 5, 5, 6, 0, 7, 7, 1, 1, 1, 1, 1, 2, 3, 0, 3, 8, 8, 8, 8, 6, 9, 0, 0, 0, 0, 0, 0, 9, 0, 9, 0, 9, 0, 0, 0, 0, 0, 9, 0, 10, 10, 10, 11, 11, 11, 0, 1, 0, 11, 0, 1, 0, 2, 0, 11, 0, 1, 0, 0, 0, 0, 0, 0, 0, 0, 0, 0, 0, 0, 0, 0, 0, 0, 0, 0, 0, 0, 0, 0, 0, 0, 0, 0, 0, 1, 0, 1, 0, 0, 0, 0, 0, 0, 0, 0, 1, 0, 1, 0, 2, 2, 2, 2, 2, 0, 2, 2, 0, 2, 2, 14, 14, 15, 15, 115, 3, 3, 3, 1, 1, 3, 1, 1, 1, 16, 4, 4, 4, 1, 1, 0, 0, 0, 0, 0, 4, 0, 0, 4, 1, 1, 17, 17, 0, 0, 17, 0, 0, 1, 4, 0, 0, 0, 0, 0, 0, 0, 0, 4, 0, 4, 3, 0, 17, 0, 1, 17, 17, 17, 17, 1, 18, 0, 18, 18, 18, 19, 18, 18, 117, 117, 0, 117, 117, 0, 1, 0, 0, 0, 0, 1, 1, 1, 1, 0, 2, 0, 1, 0, 0, 0, 0, 1, 1, 0, 1, 0, 0, 0, 0, 0, 0, 0, 0, 0, 0, 0, 0, 0, 0, 0, 0, 0, 0, 0, 0, 0, 1, 0, 1, 0, 0, 0, 0, 0, 0, 0, 0, 0, 1, 1, 1, 1, 1, 1, 0, 0, 0, 0, 0, 0, 0, 1, 0, 0, 0, 0, 1, 1, 0, 1, 0, 5, 5, 0, 1, 1, 1, 1, 1, 1, 1, 0, 1, 1, 1, 1, 0, 0, 0, 5, 0, 3, 4, 5, 5, 1, 5, 5, 5, 6, 0, 7, 7, 1, 1, 1, 1, 1, 2, 3, 0, 3, 8, 8, 8, 8, 6, 9, 0, 0, 0, 0, 0, 0, 9, 0, 9, 0, 9, 0, 0, 0, 0, 0, 9, 0, 10, 10, 10, 11, 11, 11, 0, 1, 0, 11, 0, 1, 0, 0, 0, 11, 0, 1, 0, 0, 0, 0, 0, 0, 0, 0, 0, 0, 0, 0, 0, 0, 0, 0, 0, 0, 0, 0, 0, 0, 0, 0, 0, 0, 0, 1, 0, 1, 0, 0, 0, 0, 0, 0, 0, 0, 1, 0, 1, 0, 2, 2, 2, 2, 2, 0, 2, 2, 0, 2, 2, 14, 14, 15, 15, 132, 3, 3, 3, 1, 1, 3, 1, 1, 1, 16, 4, 4, 4, 1, 1, 0, 0, 0, 0, 0, 4, 0, 0, 4, 1, 1, 17, 17, 0, 0, 17, 0, 0, 1, 4, 0, 0, 0, 0, 0, 0, 0, 0, 4, 0, 4, 3, 0, 17, 0, 1, 17, 17, 17, 17, 1, 35, 0, 35, 35, 35, 36, 35, 35, 134, 134, 0, 134, 134, 0, 1, 0, 0, 0, 0, 1, 1, 1, 1, 0, 2, 0, 1, 0, 0, 0, 0, 1, 1, 0, 1, 0, 0, 0, 0, 0, 0, 0, 0, 0, 0, 0, 0, 0, 0, 0, 0, 0, 0, 0, 0, 0, 1, 0, 1, 0, 0, 0, 0, 0, 0, 0, 0, 0, 1, 1, 1, 1, 1, 1, 0, 0, 0, 0, 0, 0, 0, 1, 0, 0, 0, 0, 1, 1, 0, 1, 0, 5, 5, 0, 1, 1, 1, 1, 1, 1, 1, 0, 1, 1, 1, 1, 0, 0, 0, 5, 0, 3, 4, 5, 5, 1, 5, 5, 5, 6, 0, 7, 7, 1, 1, 1, 1, 1, 2, 3, 0, 3, 8, 8, 8, 8, 6, 9, 0, 0, 0, 0, 0, 0, 9, 0, 9, 0, 9, 0, 0, 0, 0, 0, 9, 0, 10, 10, 10, 11, 11, 11, 0, 1, 0, 11, 0, 1, 0, 0, 0, 11, 0, 1, 0, 0, 0, 0, 0, 0, 0, 0, 0, 0, 0, 0, 0, 0, 0, 0, 0, 0, 0, 0, 0, 0, 0, 0, 0, 0, 0, 1, 0, 1, 0, 0, 0, 0, 0, 0, 0, 0, 1, 0, 1, 0, 2, 2, 2, 2, 2, 0, 2, 2, 0, 2, 2, 14, 14, 15, 15, 149, 3, 3, 3, 1, 1, 3, 1, 1, 1, 16, 4, 4, 4, 1, 1, 0, 0, 0, 0, 0, 4, 0, 0, 4, 1, 1, 17, 17, 0, 0, 17, 0, 0, 1, 4, 0, 0, 0, 0, 0, 0, 0, 0, 4, 0, 4, 3, 0, 17, 0, 1, 17, 17, 17, 17, 1, 52, 0, 52, 52, 52, 53, 52, 52, 1]
section
variable (w : World) (f₁ f₂ f₃ : Bool) (h₀ : Heap) (g : Array GenState) (d : Drawn) (os : OsState) (F : FrD) (x : Nat) (r : List Nat) (yL IT : Nat) (q₁ q₂ : Nat) (bk : Value) (b t tb : Nat) (p₁ p₂ p₃ p₄ : Addr × Obj) (sk : Sk)
noncomputable def r_BHE : Out Fin :=
  innerRun w f₁ f₂ f₃ h₀ g d os (x :: r) [] (yL + 358) IT (.str (tS []) tb) ⟨b, t, [p₁, p₂, p₃, p₄, (yL + 358, lawFr { F with fig := (x :: r), kk := 0 } bk)], 358, 0, h_BHE, [], (tabs q₁ q₂), []⟩ sk
noncomputable def c_BHE : List Dsc := [
  .eq (tS (69 :: (120 :: (112 :: (101 :: (99 :: (116 :: (101 :: (100 :: (32 :: (115 :: (101 :: (99 :: (116 :: (105 :: (111 :: (110 :: (32 :: (98 :: (117 :: (116 :: (32 :: (102 :: (111 :: (117 :: (110 :: (100 :: (32 :: (40 :: (97 :: (41 :: (42 :: (x :: r))))))))))))))))))))))))))))))))) (tS (69 :: (120 :: (112 :: (101 :: (99 :: (116 :: (101 :: (100 :: (32 :: (115 :: (101 :: (99 :: (116 :: (105 :: (111 :: (110 :: (32 :: (98 :: (117 :: (116 :: (32 :: (102 :: (111 :: (117 :: (110 :: (100 :: (32 :: (40 :: (97 :: (41 :: (42 :: (x :: r))))))))))))))))))))))))))))))))),
  .fmt (27 + (tS (40 :: (97 :: (41 :: (42 :: (x :: r)))))).length) (69 :: (120 :: (112 :: (101 :: (99 :: (116 :: (101 :: (100 :: (32 :: (115 :: (101 :: (99 :: (116 :: (105 :: (111 :: (110 :: (32 :: (98 :: (117 :: (116 :: (32 :: (102 :: (111 :: (117 :: (110 :: (100 :: (32 :: (40 :: (97 :: (41 :: (42 :: (x :: r)))))))))))))))))))))))))))))))),
  .small (((tS (40 :: (97 :: (41 :: (42 :: (x :: r)))))).length : Nat) : Int),
  .addr (b + (x :: r).length + 497) (b + (x :: r).length + 491),
  .add (tS (69 :: (120 :: (112 :: (101 :: (99 :: (116 :: (101 :: (100 :: (32 :: (115 :: (101 :: (99 :: (116 :: (105 :: (111 :: (110 :: (32 :: (98 :: (117 :: (116 :: (32 :: (102 :: (111 :: (117 :: (110 :: (100 :: (32 :: [])))))))))))))))))))))))))))) (tS (40 :: (97 :: (41 :: (42 :: (x :: r)))))),
  .eq (tS (69 :: (120 :: (112 :: (101 :: (99 :: (116 :: (101 :: (100 :: (32 :: (115 :: (101 :: (99 :: (116 :: (105 :: (111 :: (110 :: (32 :: (98 :: (117 :: (116 :: (32 :: (102 :: (111 :: (117 :: (110 :: (100 :: (32 :: (32 :: (42 :: (x :: r))))))))))))))))))))))))))))))) (tS (69 :: (120 :: (112 :: (101 :: (99 :: (116 :: (101 :: (100 :: (32 :: (115 :: (101 :: (99 :: (116 :: (105 :: (111 :: (110 :: (32 :: (98 :: (117 :: (116 :: (32 :: (102 :: (111 :: (117 :: (110 :: (100 :: (32 :: (32 :: (42 :: (x :: r))))))))))))))))))))))))))))))),
  .fmt (27 + (tS (32 :: (42 :: (x :: r)))).length) (69 :: (120 :: (112 :: (101 :: (99 :: (116 :: (101 :: (100 :: (32 :: (115 :: (101 :: (99 :: (116 :: (105 :: (111 :: (110 :: (32 :: (98 :: (117 :: (116 :: (32 :: (102 :: (111 :: (117 :: (110 :: (100 :: (32 :: (32 :: (42 :: (x :: r)))))))))))))))))))))))))))))),
  .small (((tS (32 :: (42 :: (x :: r)))).length : Nat) : Int),
  .addr (b + (x :: r).length + 480) (b + (x :: r).length + 474),
  .add (tS (69 :: (120 :: (112 :: (101 :: (99 :: (116 :: (101 :: (100 :: (32 :: (115 :: (101 :: (99 :: (116 :: (105 :: (111 :: (110 :: (32 :: (98 :: (117 :: (116 :: (32 :: (102 :: (111 :: (117 :: (110 :: (100 :: (32 :: [])))))))))))))))))))))))))))) (tS (32 :: (42 :: (x :: r)))),
  .eq (tS (69 :: (120 :: (112 :: (101 :: (99 :: (116 :: (101 :: (100 :: (32 :: (115 :: (101 :: (99 :: (116 :: (105 :: (111 :: (110 :: (32 :: (98 :: (117 :: (116 :: (32 :: (102 :: (111 :: (117 :: (110 :: (100 :: (32 :: (x :: r))))))))))))))))))))))))))))) (tS (69 :: (120 :: (112 :: (101 :: (99 :: (116 :: (101 :: (100 :: (32 :: (115 :: (101 :: (99 :: (116 :: (105 :: (111 :: (110 :: (32 :: (98 :: (117 :: (116 :: (32 :: (102 :: (111 :: (117 :: (110 :: (100 :: (32 :: (x :: r))))))))))))))))))))))))))))),
  .fmt (27 + (tS (x :: r)).length) (69 :: (120 :: (112 :: (101 :: (99 :: (116 :: (101 :: (100 :: (32 :: (115 :: (101 :: (99 :: (116 :: (105 :: (111 :: (110 :: (32 :: (98 :: (117 :: (116 :: (32 :: (102 :: (111 :: (117 :: (110 :: (100 :: (32 :: (x :: r)))))))))))))))))))))))))))),
  .ne (tS (x :: [])) (tS (42 :: [])),
  .small (((tS (x :: r)).length : Nat) : Int),
  .addr (b + (x :: r).length + 463) (b + (x :: r).length + 457),
  .add (tS (69 :: (120 :: (112 :: (101 :: (99 :: (116 :: (101 :: (100 :: (32 :: (115 :: (101 :: (99 :: (116 :: (105 :: (111 :: (110 :: (32 :: (98 :: (117 :: (116 :: (32 :: (102 :: (111 :: (117 :: (110 :: (100 :: (32 :: [])))))))))))))))))))))))))))) (tS (x :: r)),
  .add (tS (40 :: (97 :: (41 :: (42 :: []))))) (tS (x :: r)),
  .add (tS (32 :: (42 :: []))) (tS (x :: r)),
  .addr (b + (x :: r).length + 438) (b + (x :: r).length + 432),
  .addr (b + (x :: r).length + 416) (b + (x :: r).length + 379),
  .addr (b + (x :: r).length + 413) (b + 373),
  .eq (tS (42 :: (x :: r))) (tS (42 :: (x :: r))),
  .add (tS (42 :: [])) (tS (x :: r)),
  .join (tS (42 :: [])) (tS []) (tS (x :: r)),
  .small (((tS (x :: r)).length : Nat) : Int),
  .addr (b + (x :: r).length + 398) (b + (x :: r).length + 397),
  .eq (tS (digs ((PySem.intText? (tS (x :: r))).getD 0))) (tS (digs F.n)),
  .repr F.n,
  .repr ((PySem.intText? (tS (x :: r))).getD 0),
  .eq (tS (x :: r)) (tS (x :: r)),
  .diff (.str (tS (x :: r)) ((lpT true (x :: r) (List.isEmpty ([] : List Nat)) (t + 38) (t + 30) (t + 36)).1 + 25)) (.str (tS (x :: r)) (F.k 13)),
  .diff (.str (tS (100 :: (105 :: (103 :: (105 :: (116 :: (115 :: []))))))) ((lpT true (x :: r) (List.isEmpty ([] : List Nat)) (t + 38) (t + 30) (t + 36)).1 + 6)) (.str (tS (100 :: (105 :: (103 :: (105 :: (116 :: (115 :: []))))))) ((lpT true (x :: r) (List.isEmpty ([] : List Nat)) (t + 38) (t + 30) (t + 36)).1 + 28)),
  .diff (.ref (b + (x :: r).length + 388)) (.ref (b + (x :: r).length + 392)),
  .diff (.str (tS (42 :: [])) ((lpT true (x :: r) (List.isEmpty ([] : List Nat)) (t + 38) (t + 30) (t + 36)).1 + 22)) (.str (tS (42 :: [])) ((lpT true (x :: r) (List.isEmpty ([] : List Nat)) (t + 38) (t + 30) (t + 36)).1 + 27)),
  .diff (.str (tS (115 :: (101 :: (99 :: (116 :: (105 :: (111 :: (110 :: (45 :: (109 :: (97 :: (114 :: (107 :: (101 :: (114 :: []))))))))))))))) (t + 17)) (.str (tS (115 :: (101 :: (99 :: (116 :: (105 :: (111 :: (110 :: (45 :: (109 :: (97 :: (114 :: (107 :: (101 :: (114 :: []))))))))))))))) ((lpT true (x :: r) (List.isEmpty ([] : List Nat)) (t + 38) (t + 30) (t + 36)).1 + 26)),
  .diff (.ref (b + (x :: r).length + 387)) (.ref (b + (x :: r).length + 391)),
  .str (tS (x :: r)),
  .str (tS (x :: r)),
  .txt (tS (x :: r)),
  .ne (tS (x :: [])) (tS (48 :: [])),
  .code (lp w f₁ f₂ f₃ (b + 358)) (lp w f₁ f₂ f₃ (b + 358)),
  .eq (tS (x :: r)) (tS ((x :: r) ++ [])),
  .le 358 (b + 358),
  .le 358 (b + 375),
  .dig (tS (x :: [])),
  .small (((tS (x :: r)).length : Nat) : Int),
  .size (x :: r),
  .small (((tS (42 :: (x :: r))).length : Nat) : Int),
  .addr (b + 367) (b + 361),
  .add (tS (42 :: [])) (tS (x :: r))]
theorem t_BHE : (r_BHE w f₁ f₂ f₃ h₀ g d os F x r yL IT q₁ q₂ bk b t tb p₁ p₂ p₃ p₄ sk).sum [148, 149, 150, 151, 152] =
    some (.again (innerC (KT w f₁ f₂ f₃) (yL + 358) IT), [some p₁, some p₂, some p₃, some p₄, some (yL + 358, lawFr (FrD.turn { F with fig := (x :: r), kk := 0 } [] (40 :: (97 :: (41 :: (42 :: (x :: r))))) (.ref (b + 360)) (.ref (b + (x :: r).length + 423)) tb (lpT true (x :: r) (List.isEmpty ([] : List Nat)) (t + 38) (t + 30) (t + 36)).2.1 ((lpT true (x :: r) (List.isEmpty ([] : List Nat)) (t + 38) (t + 30) (t + 36)).1 + 120)) bk)], ((b + (x :: r).length), (lpT true (x :: r) (List.isEmpty ([] : List Nat)) (t + 38) (t + 30) (t + 36)).1, 506, 187, tabs q₁ q₂, [.finished, .finished]), [], (c_BHE w f₁ f₂ f₃ F x r b t), (r_BHE w f₁ f₂ f₃ h₀ g d os F x r yL IT q₁ q₂ bk b t tb p₁ p₂ p₃ p₄ sk).rt) := by
  cases f₁ <;> kernel_rfl
end
end Mine

namespace Mine
noncomputable def h_BZY : List Nat := [5, 5, 0, 5, 0, 0, 5, 0, 1, 0, 0, 0, 0, 1, 1, 0, 1, 0, 0, 0, 0, 0, 0, 0, 0, 0, 0, 0, 0, 0, 0, 0, 0, 0, 0, 0, 0, 0, 1, 0, 1, 0, 0, 0, 0, 0, 0, 0, 0, 0, 1, 1, 1, 1, 1, 1, 0, 0, 0, 0, 0, 0, 0, 1, 0, 0, 0, 0, 1, 1, 0, 1, 0, 5, 5, 0, 1, 1, 1, 1, 1, 1, 1, 0, 1, 1, 1, 1, 0, 0, 0, 5, 0, 3, 4, 5, 5, 1, 5, 5, 5, 6, 0, 7, 7, 1, 1, 1, 1, 1, 2, 3, 0, 3, 8, 8, 8, 8, 6, 9, 0, 0, 0, 0, 0, 0, 9, 0, 9, 0, 9, 0, 0, 0, 0, 0, 9, 0, 10, 10, 10, 11, 11, 11, 0, 1, 0, 11, 0, 1, 0, 0, 11, 9, 0, 0, 0, 0, 0, 9, 0, 0, 0, 0, 0, 9, 0, 0, 0, 0, 0, 9, 10, 0, 0, 0, 0, 0, 0, 0, 0, 0, 0, 0, 0, 0, 0, 0, 0, 0, 0, 0, 0, 0, 0, 0, 0, 0, 0, 0, 0, 1, 1, 1, 1, 1, 1, 0, 0, 0, 0, 0, 0, 0, 1, 0, 0, 0, 0, 1, 1, 0, 1, 0, 0, 0, 1, 1, 1, 1, 1, 1, 1, 1, 0, 1, 1, 1, 1, 0, 0, 2, 2, 0, 0, 0, 0, 0, 0, 0, 0, 0, 0, 0, 0, 0, 0, 0, 0, 4, 4, 4, 4, 1, 0, 0, 0, 0, 0, 0, 1, 0, 1, 0, 1, 0, 0, 0, 0, 0, 1, 0, 2, 2, 2, 5, 2, 0, 0, 0, 0, 0, 0, 2, 0, 2, 0, 2, 0, 0, 0, 0, 0, 2, 0, 3, 3, 3, 5, 2, 0, 2, 0, 0, 0, 0, 0, 0, 2, 0, 2, 0, 0, 0, 0, 0, 0, 0, 0, 14, 0, 14, 14, 14, 16, 0, 1, 1, 1, 1, 1, 17, 17, 17, 0, 1, 0, 17, 0, 1, 0, 0, 17, 17, 1, 16, 17, 0, 0, 0, 0, 17, 0, 0, 0, 0, 17, 0, 0, 1, 0, 17, 15, 0, 0, 0, 0, 0, 0, 15, 0, 15, 0, 15, 0, 0, 0, 15, 0, 16, 16, 16, 17, 15, 0, 0, 0, 0, 0, 15, 0, 0, 0, 0, 0, 15, 0, 0, 0, 0, 0, 15, 16, 0, 17, 0, 0, 0, 0, 0, 0, 0, 0, 0, 0, 0, 0, 0, 0, 0, 0, 0, 0, 0, 0, 0, 0, 0, 0, 0, 0, 0, 1, 1, 1, 1, 1, 1, 0, 0, 0, 0, 0, 0, 0, 1, 0, 0, 0, 0, 1, 1, 0, 1, 0, 0, 0, 1, 1, 1, 1, 1, 1, 1, 1, 0, 1, 1, 1, 1, 0, 0, 2, 2, 0, 0, 0, 0, 0, 0, 0, 0, 0, 0, 0, 0, 0, 0, 0, 0, 4, 4, 4, 4, 1, 0, 0, 0, 0, 0, 0, 1, 0, 1, 0, 1, 0, 0, 0, 0, 0, 1, 0, 2, 2, 2, 5, 2, 0, 0, 0, 0, 0, 0, 2, 0, 2, 0, 2, 0, 0, 0, 0, 0, 2, 0, 3, 3, 3, 5, 2, 0, 2, 0, 0, 0, 0, 0, 0, 2, 0, 2, 0, 0, 0, 0, 0, 0, 0, 0, 20, 0, 20, 20, 20, 22, 22, 1, 1, 1, 0, 1, 1, 1, 0, 1, 1, 1, 2, 1, 1, 1, 0, 1, 1, 1, 2, 1, 1, 1, 0, 1, 1, 1, 2, 1, 1, 1, 31, 31, 31, 31, 31, 24, 0, 0, 0, 0, 0, 24, 0, 0, 0, 0, 0, 0, 24, 0, 1, 0, 3, 3, 0, 3, 3, 3, 27, 3, 3, 1, 1, 1, 15, 0, 0, 0, 0, 0, 0, 15, 0, 0, 0, 0, 0, 15, 15, 0, 16, 0, 0, 1, 0, 0, 1, 15, 0, 0, 0, 0, 0, 0, 15, 0, 0, 15, 0, 0, 3, 3, 3, 3, 4, 0, 4, 4, 4, 28, 4, 4, 2, 2, 2, 10, 0, 0, 0, 0, 0, 0, 10, 0, 0, 0, 0, 0, 10, 10, 0, 11, 0, 0, 2, 0, 0, 1, 10, 0, 0, 0, 0, 0, 0, 10, 0, 0, 10, 0, 0, 4, 4, 4, 4, 5, 0, 5, 5, 5, 29, 5, 5, 1, 5, 5, 5, 39, 9, 1, 9, 0, 9, 1, 9, 1, 1, 9, 1, 7, 3, 7, 0, 7, 1, 3, 7, 3, 0, 0, 0, 0, 1, 9, 1, 6, 2, 6, 0, 6, 1, 2, 6, 2, 0, 0, 0, 0, 0, 9, 1, 9, 1, 0, 0, 41, 34, 0, 0, 0, 0, 0, 0, 0, 0, 0, 0, 0, 34, 0, 34, 0, 0, 0, 34, 34, 0, 35, 0, 0, 1, 0, 0, 41, 0, 0, 1, 0, 0, 41, 34, 0, 0, 0, 0, 0, 0, 0, 0, 0, 0, 0, 34, 0, 34, 0, 0, 0, 0, 0, 0, 0, 0, 0, 0, 0, 0, 1, 1, 0, 3, 1, 35, 0, 0, 0, 0, 0, 35, 0, 0, 0, 0, 0, 0, 35, 0, 1, 0, 0, 1001, 0, 0, 1, 1, 0, 1, 1, 1, 1, 0, 1, 1, 0, 2, 2, 2, 0, 2, 2, 2, 2, 1, 1, 1, 1, 1, 1, 2, 0, 2, 2, 0, 0, 0, 4, 4, 0, 4, 4, 4, 39, 4, 4, 3, 3, 3, 27, 0, 0, 0, 0, 0, 0, 27, 0, 0, 0, 0, 0, 0, 0, 0, 0, 0, 0, 0, 0, 0, 0, 1, 1, 0, 0, 1, 28, 0, 0, 0, 0, 0, 28, 0, 0, 0, 0, 0, 0, 0, 28, 0, 0, 0, 0, 0, 0, 28, 0, 28, 4, 28, 0, 0, 0, 0, 0, 0, 28, 0, 0, 0, 0, 0, 0, 0, 0, 0, 0, 0, 0, 0, 0, 0, 1, 1, 0, 0, 1, 3, 3, 3, 4, 0, 4, 4, 0, 0, 0, 6, 0, 6, 6, 6, 41, 6, 6, 5, 5, 5, 23, 0, 0, 0, 0, 0, 0, 23, 0, 0, 0, 0, 0, 0, 0, 0, 0, 0, 0, 0, 0, 0, 0, 1, 1, 0, 0, 1, 24, 0, 0, 0, 0, 0, 24, 0, 0, 0, 0, 0, 0, 0, 24, 0, 0, 0, 0, 0, 0, 24, 0, 24, 6, 24, 0, 0, 0, 0, 0, 0, 24, 0, 0, 0, 0, 0, 0, 0, 0, 0, 0, 0, 0, 0, 0, 0, 1, 1, 0, 0, 1, 5, 5, 5, 6, 0, 6, 6, 0, 0, 0, 8, 0, 8, 8, 8, 43, 8, 8, 1, 1, 9, 35, 29, 54, 0, 0, 0, 0, 54, 54, 0, 1, 54, 47, 0, 0, 0, 0, 0, 0, 0, 0, 0, 0, 0, 47, 0, 47, 0, 0, 0, 47, 47, 0, 48, 0, 0, 54, 47, 0, 0, 0, 0, 0, 0, 0, 0, 0, 0, 0, 47, 0, 47, 0, 0, 0, 0, 0, 0, 0, 0, 0, 0, 0, 0, 1, 1, 0, 3, 0, 0, 1, 48, 0, 0, 0, 0, 0, 48, 0, 0, 0, 0, 0, 0, 48, 0, 1, 0, 0, 1002, 0, 0, 1, 1, 4, 51, 0, 0, 0, 0, 0, 0, 0, 0, 0, 0, 0, 51, 0, 51, 0, 0, 0, 0, 0, 51, 51, 0, 52, 0, 1, 1, 0, 1, 1, 43, 43, 43, 1, 2, 0, 2, 2, 1, 0, 1, 4, 4, 0, 4, 4, 4, 52, 4, 4, 3, 3, 3, 40, 0, 0, 0, 0, 0, 0, 40, 0, 0, 0, 0, 0, 0, 0, 0, 0, 0, 0, 0, 0, 0, 0, 0, 0, 1, 1, 0, 0, 0, 0, 1, 41, 0, 0, 0, 0, 0, 0, 41, 0, 0, 0, 0, 0, 41, 41, 0, 42, 0, 0, 1, 1, 0, 1, 1, 1, 1, 1, 41, 41, 1, 1, 1, 1, 46, 1, 46, 0, 46, 0, 1, 46, 1, 4, 4, 4, 4, 4, 4, 4, 5, 0, 5, 5, 1, 0, 1, 7, 0, 7, 7, 7, 55, 7, 7, 6, 6, 6, 37, 0, 0, 0, 0, 0, 0, 37, 0, 0, 0, 0, 0, 0, 0, 0, 0, 0, 0, 0, 0, 0, 0, 0, 0, 1, 1, 0, 0, 0, 0, 1, 38, 0, 0, 0, 0, 0, 0, 38, 0, 0, 0, 0, 0, 38, 38, 0, 39, 0, 0, 1, 1, 0, 1, 1, 1, 1, 1, 38, 38, 1, 1, 1, 1, 3, 1, 3, 0, 3, 0, 1, 3, 1, 7, 7, 7, 7, 7, 7, 7, 8, 0, 8, 8, 1, 0, 1, 10, 0, 10, 10, 10, 58, 10, 10, 1, 1, 5, 5, 0, 5, 1, 0, 3, 3, 0, 3, 3, 3, 8, 3, 3, 1, 74, 74, 3, 74, 74, 0, 0, 5, 1, 5, 0, 5, 1, 5, 1, 0, 5, 1, 5, 1, 0, 0, 75, 68, 0, 0, 0, 0, 0, 0, 0, 0, 0, 0, 0, 68, 0, 68, 0, 0, 0, 0, 0, 68, 68, 0, 69, 0, 0, 60, 0, 60, 60, 0, 0, 75, 0, 0, 5, 0, 5, 5, 0, 0, 75, 0, 1, 75, 0, 1, 0, 0, 0, 0, 1, 1, 1, 1, 0, 2, 0, 1, 0, 0, 0, 0, 1, 1, 0, 1, 0, 0, 0, 0, 0, 0, 0, 0, 0, 0, 0, 0, 0, 0, 0, 0, 0, 0, 0, 0, 0, 1, 0, 1, 0, 0, 0, 0, 0, 0, 0, 0, 0, 1, 1, 1, 1, 1, 1, 0, 0, 0, 0, 0, 0, 0, 1, 0, 0, 0, 0, 1, 1, 0, 1, 0, 5, 5, 0, 1, 1, 1, 1, 1, 1, 1, 0, 1, 1, 1, 1, 0, 0, 0, 5, 0, 3, 4, 5, 5, 1, 5, 5, 5, 6, 0, 7, 7, 1, 1, 1, 1, 1, 2, 3, 0, 3, 8, 8, 8, 8, 6, 9, 0, 0, 0, 0, 0, 0, 9, 0, 9, 0, 9, 0, 0, 0, 0, 0, 9, 0, 10, 10, 10, 11, 11, 11, 0, 1, 0, 11, 0, 1, 0, 0, 11, 9, 0, 0, 0, 0, 0, 9, 0, 0, 0, 0, 0, 9, 0, 0, 0, 0, 0, 9, 10, 0, 0, 0, 0, 0, 0, 0, 0, 0, 0, 0, 0, 0, 0, 0, 0, 0, 0, 0, 0, 0, 0, 0, 0, 0, 0, 0, 0, 1, 1, 1, 1, 1, 1, 0, 0, 0, 0, 0, 0, 0, 1, 0, 0, 0, 0, 1, 1, 0, 1, 0, 0, 0, 1, 1, 1, 1, 1, 1, 1, 1, 0, 1, 1, 1, 1, 0, 0, 2, 2, 0, 0, 0, 0, 0, 0, 0, 0, 0, 0, 0, 0, 0, 0, 0, 0, 4, 4, 4, 4, 1, 0, 0, 0, 0, 0, 0, 1, 0, 1, 0, 1, 0, 0, 0, 0, 0, 1, 0, 2, 2, 2, 5, 2, 0, 0, 0, 0, 0, 0, 2, 0, 2, 0, 2, 0, 0, 0, 0, 0, 2, 0, 3, 3, 3, 5, 2, 0, 2, 0, 0, 0, 0, 0, 0, 2, 0, 2, 0, 0, 0, 0, 0, 0, 0, 0, 14, 0, 14, 14, 14, 16, 0, 1, 1, 1, 1, 1, 17, 17, 17, 0, 1, 0, 17, 0, 1, 0, 2, 0, 17, 0, 1, 0, 0, 0, 0, 0, 0, 0, 0, 0, 0, 0, 0, 0, 0, 0, 0, 0, 0, 0, 0, 0, 0, 0, 0, 0, 0, 0, 1, 0, 1, 0, 0, 0, 0, 0, 0, 0, 0, 1, 0, 1, 0, 2, 2, 2, 2, 2, 0, 2, 2, 0, 2, 2, 20, 20, 21, 21, 96, 3, 3, 3, 1, 1, 3, 1, 1, 1, 22, 4, 4, 4, 1, 1, 0, 0, 0, 0, 0, 4, 0, 0, 4, 1, 1, 23, 23, 0, 0, 23, 0, 0, 1, 4, 0, 0, 0, 0, 0, 0, 0, 0, 4, 0, 4, 3, 0, 23, 0, 1, 23, 23, 23, 23, 98, 98, 0, 1, 98, 0, 0, 98, 0, 1, 98, 0, 0, 98, 0, 1, 1, 1, 0, 1, 1, 0, 1, 1, 0, 1, 1, 1, 2, 1, 1, 100, 100, 0, 100, 100, 0, 1, 0, 0, 0, 0, 1, 1, 1, 1, 0, 2, 0, 1, 0, 0, 0, 0, 1, 1, 0, 1, 0, 0, 0, 0, 0, 0, 0, 0, 0, 0, 0, 0, 0, 0, 0, 0, 0, 0, 0, 0, 0, 1, 0, 1, 0, 0, 0, 0, 0, 0, 0, 0, 0, 1, 1, 1, 1, 1, 1, 0, 0, 0, 0, 0, 0, 0, 1, 0, 0, 0, 0, 1, 1, 0, 1, 0, 5, 5, 0, 1, 1, 1, 1, 1, 1, 1, 0, 1, 1, 1, 1, 0, 0, 0, 5, 0, 3, 4, 5, 5, 1, 5, 5, 5, 6, 0, 7, 7, 1, 1, 1, 1, 1, 2, 3, 0, 3, 8, 8, 8, 8, 6, 9, 0, 0, 0, 0, 0, 0, 9, 0, 9, 0, 9, 0, 0, 0, 0, 0, 9, 0, 10, 10, 10, 11, 11, 11, 0, 1, 0, 11, 0, 1, 0, 0, 0, 11, 0, 1, 0, 0, 0, 0, 0, 0, 0, 0, 0, 0, 0, 0, 0, 0, 0, 0, 0, 0, 0, 0, 0, 0, 0, 0, 0, 0, 0, 1, 0, 1, 0, 0, 0, 0, 0, 0, 0, 0, 1, 0, 1, 0, 2, 2, 2, 2, 2, 0, 2, 2, 0, 2, 2, 14, 14, 15, 15, 115, 3, 3, 3, 1, 1, 3, 1, 1, 1, 16, 4, 4, 4, 1, 1, 0, 0, 0, 0, 0, 4, 0, 0, 4, 1, 1, 17, 17, 0, 0, 17, 0, 0, 1, 4, 0, 0, 0, 0, 0, 0, 0, 0, 4, 0, 4, 3, 0, 17, 0, 1, 17, 17, 17, 17, 1, 18, 0, 18, 18, 18, 19, 18, 18, 117, 117, 0, 117, 117, 0, 1, 0, 0, 0, 0, 1, 1, 1, 1, 0, 2, 0, 1, 0, 0, 0, 0, 1, 1, 0, 1, 0, 0, 0, 0, 0, 0, 0, 0, 0, 0, 0, 0, 0, 0, 0, 0, 0, 0, 0, 0, 0, 1, 0, 1, 0, 0, 0, 0, 0, 0, 0, 0, 0, 1, 1, 1, 1, 1, 1, 0, 0, 0, 0, 0, 0, 0, 1, 0, 0, 0, 0, 1, 1, 0, 1, 0, 5, 5, 0, 1, 1, 1, 1, 1, 1, 1, 0, 1, 1, 1, 1, 0, 0, 0, 5, 0, 3, 4, 5, 5, 1, 5, 5, 5, 6, 0, 7, 7, 1, 1, 1, 1, 1, 2, 3, 0, 3, 8, 8, 8, 8, 6, 9, 0, 0, 0, 0, 0, 0, 9, 0, 9, 0, 9, 0, 0, 0, 0, 0, 9, 0, 10, 10, 10, 11, 11, 11, 0, 1, 0, 11, 0, 1, 0, 0, 0, 11, 0, 1, 0, 0, 0, 0, 0, 0, 0, 0, 0, 0, 0, 0, 0, 0, 0, 0, 0, 0, 0, 0, 0, 0, 0, 0, 0, 0, 0, 1, 0, 1, 0, 0, 0, 0, 0, 0, 0, 0, 1, 0, 1, 0, 2, 2, 2, 2, 2, 0, 2, 2, 0, 2, 2, 14, 14, 15, 15, 132, 3, 3, 3, 1, 1, 3, 1, 1, 1, 16, 4, 4, 4, 1, 1, 0, 0, 0, 0, 0, 4, 0, 0, 4, 1, 1, 17, 17, 0, 0, 17, 0, 0, 1, 4, 0, 0, 0, 0, 0, 0, 0, 0, 4, 0, 4, 3, 0, 17, 0, 1, 17, 17, 17, 17, 1, 35, 0, 35, 35, 35, 36, 35, 35, 134, 134, 0, 134, 134, 0, 1, 0, 0, 0, 0, 1, 1, 1, 1, 0, 2, 0, 1, 0, 0, 0, 0, 1, 1, 0, 1, 0, 0, 0, 0, 0, 0, 0, 0, 0, 0, 0, 0, 0, 0, 0, 0, 0, 0, 0, 0, 0, 1, 0, 1, 0, 0, 0, 0, 0, 0, 0, 0, 0, 1, 1, 1, 1, 1, 1, 0, 0, 0, 0, 0, 0, 0, 1, 0, 0, 0, 0, 1, 1, 0, 1, 0, 5, 5, 0, 1, 1, 1, 1, 1, 1, 1, 0, 1, 1, 1, 1, 0, 0, 0, 5, 0, 3, 4, 5, 5, 1, 5, 5, 5, 6, 0, 7, 7, 1, 1, 1, 1, 1, 2, 3, 0, 3, 8, 8, 8, 8, 6, 9, 0, 0, 0, 0, 0, 0, 9, 0, 9, 0, 9, 0, 0, 0, 0, 0, 9, 0, 10, 10, 10, 11, 11, 11, 0, 1, 0, 11, 0, 1, 0, 0, 0, 11, 0, 1, 0, 0, 0, 0, 0, 0, 0, 0, 0, 0, 0, 0, 0, 0, 0, 0, 0, 0, 0, 0, 0, 0, 0, 0, 0, 0, 0, 1, 0, 1, 0, 0, 0, 0, 0, 0, 0, 0, 1, 0, 1, 0, 2, 2, 2, 2, 2, 0, 2, 2, 0, 2, 2, 14, 14, 15, 15, 149, 3, 3, 3, 1, 1, 3, 1, 1, 1, 16, 4, 4, 4, 1, 1, 0, 0, 0, 0, 0, 4, 0, 0, 4, 1, 1, 17, 17, 0, 0, 17, 0, 0, 1, 4, 0, 0, 0, 0, 0, 0, 0, 0, 4, 0, 4, 3, 0, 17, 0, 1, 17, 17, 17, 17, 1, 52, 0, 52, 52, 52, 53, 52, 52, 1]
section
variable (w : World) (f₁ f₂ f₃ : Bool) (h₀ : Heap) (g : Array GenState) (d : Drawn) (os : OsState) (F : FrD) (y : Nat) (ys : List Nat) (yL IT : Nat) (q₁ q₂ : Nat) (bk : Value) (b t tb : Nat) (p₁ p₂ p₃ p₄ : Addr × Obj) (sk : Sk)
noncomputable def r_BZY : Out Fin :=
  innerRun w f₁ f₂ f₃ h₀ g d os [48] (y :: ys) (yL + 358) IT (.str (tS (y :: ys)) tb) ⟨b, t, [p₁, p₂, p₃, p₄, (yL + 358, lawFr { F with fig := [48], kk := 0, n := 0 } bk)], 358, 0, h_BZY, [], (tabs q₁ q₂), []⟩ sk
noncomputable def c_BZY : List Dsc := [
  .eq (tS (69 :: (120 :: (112 :: (101 :: (99 :: (116 :: (101 :: (100 :: (32 :: (115 :: (101 :: (99 :: (116 :: (105 :: (111 :: (110 :: (32 :: (98 :: (117 :: (116 :: (32 :: (102 :: (111 :: (117 :: (110 :: (100 :: (32 :: (40 :: (97 :: (41 :: (42 :: (48 :: (y :: ys)))))))))))))))))))))))))))))))))) (tS (69 :: (120 :: (112 :: (101 :: (99 :: (116 :: (101 :: (100 :: (32 :: (115 :: (101 :: (99 :: (116 :: (105 :: (111 :: (110 :: (32 :: (98 :: (117 :: (116 :: (32 :: (102 :: (111 :: (117 :: (110 :: (100 :: (32 :: (40 :: (97 :: (41 :: (42 :: (48 :: (y :: ys)))))))))))))))))))))))))))))))))),
  .fmt (27 + (tS (40 :: (97 :: (41 :: (42 :: (48 :: (y :: ys))))))).length) (69 :: (120 :: (112 :: (101 :: (99 :: (116 :: (101 :: (100 :: (32 :: (115 :: (101 :: (99 :: (116 :: (105 :: (111 :: (110 :: (32 :: (98 :: (117 :: (116 :: (32 :: (102 :: (111 :: (117 :: (110 :: (100 :: (32 :: (40 :: (97 :: (41 :: (42 :: (48 :: (y :: ys))))))))))))))))))))))))))))))))),
  .small (((tS (40 :: (97 :: (41 :: (42 :: (48 :: (y :: ys))))))).length : Nat) : Int),
  .addr (b + (48 :: []).length + 497) (b + (48 :: []).length + 491),
  .add (tS (69 :: (120 :: (112 :: (101 :: (99 :: (116 :: (101 :: (100 :: (32 :: (115 :: (101 :: (99 :: (116 :: (105 :: (111 :: (110 :: (32 :: (98 :: (117 :: (116 :: (32 :: (102 :: (111 :: (117 :: (110 :: (100 :: (32 :: [])))))))))))))))))))))))))))) (tS (40 :: (97 :: (41 :: (42 :: (48 :: (y :: ys))))))),
  .eq (tS (69 :: (120 :: (112 :: (101 :: (99 :: (116 :: (101 :: (100 :: (32 :: (115 :: (101 :: (99 :: (116 :: (105 :: (111 :: (110 :: (32 :: (98 :: (117 :: (116 :: (32 :: (102 :: (111 :: (117 :: (110 :: (100 :: (32 :: (32 :: (42 :: (48 :: (y :: ys)))))))))))))))))))))))))))))))) (tS (69 :: (120 :: (112 :: (101 :: (99 :: (116 :: (101 :: (100 :: (32 :: (115 :: (101 :: (99 :: (116 :: (105 :: (111 :: (110 :: (32 :: (98 :: (117 :: (116 :: (32 :: (102 :: (111 :: (117 :: (110 :: (100 :: (32 :: (32 :: (42 :: (48 :: (y :: ys)))))))))))))))))))))))))))))))),
  .fmt (27 + (tS (32 :: (42 :: (48 :: (y :: ys))))).length) (69 :: (120 :: (112 :: (101 :: (99 :: (116 :: (101 :: (100 :: (32 :: (115 :: (101 :: (99 :: (116 :: (105 :: (111 :: (110 :: (32 :: (98 :: (117 :: (116 :: (32 :: (102 :: (111 :: (117 :: (110 :: (100 :: (32 :: (32 :: (42 :: (48 :: (y :: ys))))))))))))))))))))))))))))))),
  .small (((tS (32 :: (42 :: (48 :: (y :: ys))))).length : Nat) : Int),
  .addr (b + (48 :: []).length + 480) (b + (48 :: []).length + 474),
  .add (tS (69 :: (120 :: (112 :: (101 :: (99 :: (116 :: (101 :: (100 :: (32 :: (115 :: (101 :: (99 :: (116 :: (105 :: (111 :: (110 :: (32 :: (98 :: (117 :: (116 :: (32 :: (102 :: (111 :: (117 :: (110 :: (100 :: (32 :: [])))))))))))))))))))))))))))) (tS (32 :: (42 :: (48 :: (y :: ys))))),
  .eq (tS (69 :: (120 :: (112 :: (101 :: (99 :: (116 :: (101 :: (100 :: (32 :: (115 :: (101 :: (99 :: (116 :: (105 :: (111 :: (110 :: (32 :: (98 :: (117 :: (116 :: (32 :: (102 :: (111 :: (117 :: (110 :: (100 :: (32 :: (48 :: (y :: ys)))))))))))))))))))))))))))))) (tS (69 :: (120 :: (112 :: (101 :: (99 :: (116 :: (101 :: (100 :: (32 :: (115 :: (101 :: (99 :: (116 :: (105 :: (111 :: (110 :: (32 :: (98 :: (117 :: (116 :: (32 :: (102 :: (111 :: (117 :: (110 :: (100 :: (32 :: (48 :: (y :: ys)))))))))))))))))))))))))))))),
  .fmt (27 + (tS (48 :: (y :: ys))).length) (69 :: (120 :: (112 :: (101 :: (99 :: (116 :: (101 :: (100 :: (32 :: (115 :: (101 :: (99 :: (116 :: (105 :: (111 :: (110 :: (32 :: (98 :: (117 :: (116 :: (32 :: (102 :: (111 :: (117 :: (110 :: (100 :: (32 :: (48 :: (y :: ys))))))))))))))))))))))))))))),
  .small (((tS (48 :: (y :: ys))).length : Nat) : Int),
  .addr (b + (48 :: []).length + 463) (b + (48 :: []).length + 457),
  .add (tS (69 :: (120 :: (112 :: (101 :: (99 :: (116 :: (101 :: (100 :: (32 :: (115 :: (101 :: (99 :: (116 :: (105 :: (111 :: (110 :: (32 :: (98 :: (117 :: (116 :: (32 :: (102 :: (111 :: (117 :: (110 :: (100 :: (32 :: [])))))))))))))))))))))))))))) (tS (48 :: (y :: ys))),
  .add (tS (40 :: (97 :: (41 :: (42 :: (48 :: [])))))) (tS (y :: ys)),
  .add (tS (32 :: (42 :: (48 :: [])))) (tS (y :: ys)),
  .add (tS (48 :: [])) (tS (y :: ys)),
  .eq (tS (69 :: (120 :: (112 :: (101 :: (99 :: (116 :: (101 :: (100 :: (32 :: (115 :: (101 :: (99 :: (116 :: (105 :: (111 :: (110 :: (32 :: (110 :: (117 :: (109 :: (98 :: (101 :: (114 :: (32 :: (98 :: (117 :: (116 :: (32 :: (102 :: (111 :: (117 :: (110 :: (100 :: (32 :: (y :: ys)))))))))))))))))))))))))))))))))))) (tS (69 :: (120 :: (112 :: (101 :: (99 :: (116 :: (101 :: (100 :: (32 :: (115 :: (101 :: (99 :: (116 :: (105 :: (111 :: (110 :: (32 :: (110 :: (117 :: (109 :: (98 :: (101 :: (114 :: (32 :: (98 :: (117 :: (116 :: (32 :: (102 :: (111 :: (117 :: (110 :: (100 :: (32 :: (y :: ys)))))))))))))))))))))))))))))))))))),
  .fmt (34 + (tS (y :: ys)).length) (69 :: (120 :: (112 :: (101 :: (99 :: (116 :: (101 :: (100 :: (32 :: (115 :: (101 :: (99 :: (116 :: (105 :: (111 :: (110 :: (32 :: (110 :: (117 :: (109 :: (98 :: (101 :: (114 :: (32 :: (98 :: (117 :: (116 :: (32 :: (102 :: (111 :: (117 :: (110 :: (100 :: (32 :: (y :: ys))))))))))))))))))))))))))))))))))),
  .nodig (tS (y :: [])),
  .small (((tS (y :: ys)).length : Nat) : Int),
  .size (y :: ys),
  .small (((tS (42 :: (y :: ys))).length : Nat) : Int),
  .addr (b + (48 :: []).length + 438) (b + (48 :: []).length + 432),
  .add (tS (69 :: (120 :: (112 :: (101 :: (99 :: (116 :: (101 :: (100 :: (32 :: (115 :: (101 :: (99 :: (116 :: (105 :: (111 :: (110 :: (32 :: (110 :: (117 :: (109 :: (98 :: (101 :: (114 :: (32 :: (98 :: (117 :: (116 :: (32 :: (102 :: (111 :: (117 :: (110 :: (100 :: (32 :: []))))))))))))))))))))))))))))))))))) (tS (y :: ys)),
  .add (tS (42 :: [])) (tS (y :: ys)),
  .addr (b + (48 :: []).length + 416) (b + (48 :: []).length + 379),
  .addr (b + (48 :: []).length + 413) (b + 373),
  .eq (tS (y :: ys)) (tS (y :: ys)),
  .join (tS (42 :: [])) (tS []) (tS (48 :: [])),
  .addr (b + (48 :: []).length + 398) (b + (48 :: []).length + 397),
  .repr 0,
  .repr ((PySem.intText? (tS (48 :: []))).getD 0),
  .diff (.str (tS (48 :: [])) ((lpT true (48 :: []) (List.isEmpty (y :: ys)) (t + 39) (t + 31) (t + 37)).1 + 26)) (.str (tS (48 :: [])) (F.k 13)),
  .diff (.str (tS (100 :: (105 :: (103 :: (105 :: (116 :: (115 :: []))))))) ((lpT true (48 :: []) (List.isEmpty (y :: ys)) (t + 39) (t + 31) (t + 37)).1 + 7)) (.str (tS (100 :: (105 :: (103 :: (105 :: (116 :: (115 :: []))))))) ((lpT true (48 :: []) (List.isEmpty (y :: ys)) (t + 39) (t + 31) (t + 37)).1 + 29)),
  .diff (.ref (b + (48 :: []).length + 388)) (.ref (b + (48 :: []).length + 392)),
  .diff (.str (tS (42 :: [])) ((lpT true (48 :: []) (List.isEmpty (y :: ys)) (t + 39) (t + 31) (t + 37)).1 + 23)) (.str (tS (42 :: [])) ((lpT true (48 :: []) (List.isEmpty (y :: ys)) (t + 39) (t + 31) (t + 37)).1 + 28)),
  .diff (.str (tS (115 :: (101 :: (99 :: (116 :: (105 :: (111 :: (110 :: (45 :: (109 :: (97 :: (114 :: (107 :: (101 :: (114 :: []))))))))))))))) (t + 18)) (.str (tS (115 :: (101 :: (99 :: (116 :: (105 :: (111 :: (110 :: (45 :: (109 :: (97 :: (114 :: (107 :: (101 :: (114 :: []))))))))))))))) ((lpT true (48 :: []) (List.isEmpty (y :: ys)) (t + 39) (t + 31) (t + 37)).1 + 27)),
  .diff (.ref (b + (48 :: []).length + 387)) (.ref (b + (48 :: []).length + 391)),
  .txt (tS (48 :: [])),
  .code (lp w f₁ f₂ f₃ (b + 358)) (lp w f₁ f₂ f₃ (b + 358)),
  .eq (tS (48 :: (y :: ys))) (tS ((48 :: []) ++ (y :: ys))),
  .le 358 (b + 358),
  .le 358 (b + 375),
  .small (((tS (48 :: (y :: ys))).length : Nat) : Int),
  .size (48 :: (y :: ys)),
  .small (((tS (42 :: (48 :: (y :: ys)))).length : Nat) : Int),
  .addr (b + 367) (b + 361),
  .add (tS (42 :: (48 :: []))) (tS (y :: ys))]
theorem t_BZY : (r_BZY w f₁ f₂ f₃ h₀ g d os F y ys yL IT q₁ q₂ bk b t tb p₁ p₂ p₃ p₄ sk).sum [148, 149, 150, 151, 152] =
    some (.again (innerC (KT w f₁ f₂ f₃) (yL + 358) IT), [some p₁, some p₂, some p₃, some p₄, some (yL + 358, lawFr (FrD.turn { F with fig := [48], kk := 0, n := 0 } (y :: ys) (40 :: (97 :: (41 :: (42 :: (48 :: (y :: ys)))))) (.ref (b + 360)) (.ref (b + (48 :: []).length + 423)) tb (lpT true (48 :: []) (List.isEmpty (y :: ys)) (t + 39) (t + 31) (t + 37)).2.1 ((lpT true (48 :: []) (List.isEmpty (y :: ys)) (t + 39) (t + 31) (t + 37)).1 + 128)) bk)], ((b + (48 :: []).length), (lpT true (48 :: []) (List.isEmpty (y :: ys)) (t + 39) (t + 31) (t + 37)).1, 506, 195, tabs q₁ q₂, [.finished, .finished]), [], (c_BZY w f₁ f₂ f₃ F y ys b t), (r_BZY w f₁ f₂ f₃ h₀ g d os F y ys yL IT q₁ q₂ bk b t tb p₁ p₂ p₃ p₄ sk).rt) := by
  cases f₁ <;> kernel_rfl
end
end Mine

namespace Mine
noncomputable def h_BZE : List Nat := [5, 5, 0, 5, 0, 0, 5, 0, 0, 0, 0, 0, 0, 1, 1, 0, 1, 0, 0, 0, 0, 0, 0, 0, 0, 0, 0, 0, 0, 0, 0, 0, 0, 0, 0, 0, 0, 0, 1, 0, 1, 0, 0, 0, 0, 0, 0, 0, 0, 0, 1, 1, 1, 1, 1, 1, 0, 0, 0, 0, 0, 0, 0, 1, 0, 0, 0, 0, 1, 1, 0, 1, 0, 5, 5, 0, 1, 1, 1, 1, 1, 1, 1, 0, 1, 1, 1, 1, 0, 0, 0, 5, 0, 3, 4, 5, 5, 1, 5, 5, 5, 6, 0, 7, 7, 1, 1, 1, 1, 1, 2, 3, 0, 3, 8, 8, 8, 8, 6, 9, 0, 0, 0, 0, 0, 0, 9, 0, 9, 0, 9, 0, 0, 0, 0, 0, 9, 0, 10, 10, 10, 11, 11, 11, 0, 0, 0, 11, 0, 0, 0, 0, 11, 9, 0, 0, 0, 0, 0, 9, 0, 0, 0, 0, 0, 9, 0, 0, 0, 0, 0, 9, 10, 0, 0, 0, 0, 0, 0, 0, 0, 0, 0, 0, 0, 0, 0, 0, 0, 0, 0, 0, 0, 0, 0, 0, 0, 0, 0, 0, 0, 1, 1, 1, 1, 1, 1, 0, 0, 0, 0, 0, 0, 0, 1, 0, 0, 0, 0, 1, 1, 0, 1, 0, 0, 0, 1, 1, 1, 1, 1, 1, 1, 1, 0, 1, 1, 1, 1, 0, 0, 2, 2, 0, 0, 0, 0, 0, 0, 0, 0, 0, 0, 0, 0, 0, 0, 0, 0, 4, 4, 4, 4, 1, 0, 0, 0, 0, 0, 0, 1, 0, 1, 0, 1, 0, 0, 0, 0, 0, 1, 0, 2, 2, 2, 5, 2, 0, 0, 0, 0, 0, 0, 2, 0, 2, 0, 2, 0, 0, 0, 0, 0, 2, 0, 3, 3, 3, 5, 2, 0, 2, 0, 0, 0, 0, 0, 0, 2, 0, 2, 0, 0, 0, 0, 0, 0, 0, 0, 14, 0, 14, 14, 14, 16, 0, 0, 1, 1, 1, 1, 17, 17, 17, 0, 0, 0, 17, 0, 0, 0, 0, 17, 17, 1, 16, 17, 0, 0, 0, 0, 17, 0, 0, 0, 0, 17, 0, 0, 1, 0, 17, 15, 0, 0, 0, 0, 0, 0, 15, 0, 15, 0, 15, 0, 0, 0, 15, 0, 16, 16, 16, 17, 15, 0, 0, 0, 0, 0, 15, 0, 0, 0, 0, 0, 15, 0, 0, 0, 0, 0, 15, 16, 0, 17, 0, 0, 0, 0, 0, 0, 0, 0, 0, 0, 0, 0, 0, 0, 0, 0, 0, 0, 0, 0, 0, 0, 0, 0, 0, 0, 0, 1, 1, 1, 1, 1, 1, 0, 0, 0, 0, 0, 0, 0, 1, 0, 0, 0, 0, 1, 1, 0, 1, 0, 0, 0, 1, 1, 1, 1, 1, 1, 1, 1, 0, 1, 1, 1, 1, 0, 0, 2, 2, 0, 0, 0, 0, 0, 0, 0, 0, 0, 0, 0, 0, 0, 0, 0, 0, 4, 4, 4, 4, 1, 0, 0, 0, 0, 0, 0, 1, 0, 1, 0, 1, 0, 0, 0, 0, 0, 1, 0, 2, 2, 2, 5, 2, 0, 0, 0, 0, 0, 0, 2, 0, 2, 0, 2, 0, 0, 0, 0, 0, 2, 0, 3, 3, 3, 5, 2, 0, 2, 0, 0, 0, 0, 0, 0, 2, 0, 2, 0, 0, 0, 0, 0, 0, 0, 0, 20, 0, 20, 20, 20, 22, 22, 1, 1, 1, 0, 1, 1, 1, 0, 1, 1, 1, 2, 1, 1, 1, 0, 1, 1, 1, 2, 1, 1, 1, 0, 1, 1, 1, 2, 1, 1, 1, 31, 31, 31, 31, 31, 24, 0, 0, 0, 0, 0, 24, 0, 0, 0, 0, 0, 0, 24, 0, 1, 0, 3, 3, 0, 3, 3, 3, 27, 3, 3, 1, 1, 1, 15, 0, 0, 0, 0, 0, 0, 15, 0, 0, 0, 0, 0, 15, 15, 0, 16, 0, 0, 1, 0, 0, 1, 15, 0, 0, 0, 0, 0, 0, 15, 0, 0, 15, 0, 0, 3, 3, 3, 3, 4, 0, 4, 4, 4, 28, 4, 4, 2, 2, 2, 10, 0, 0, 0, 0, 0, 0, 10, 0, 0, 0, 0, 0, 10, 10, 0, 11, 0, 0, 2, 0, 0, 1, 10, 0, 0, 0, 0, 0, 0, 10, 0, 0, 10, 0, 0, 4, 4, 4, 4, 5, 0, 5, 5, 5, 29, 5, 5, 1, 5, 5, 5, 39, 9, 1, 9, 0, 9, 1, 9, 1, 1, 9, 1, 7, 3, 7, 0, 7, 1, 3, 7, 3, 0, 0, 0, 0, 1, 9, 1, 6, 2, 6, 0, 6, 1, 2, 6, 2, 0, 0, 0, 0, 0, 9, 1, 9, 1, 0, 0, 41, 34, 0, 0, 0, 0, 0, 0, 0, 0, 0, 0, 0, 34, 0, 34, 0, 0, 0, 34, 34, 0, 35, 0, 0, 1, 0, 0, 41, 0, 0, 1, 0, 0, 41, 34, 0, 0, 0, 0, 0, 0, 0, 0, 0, 0, 0, 34, 0, 34, 0, 0, 0, 0, 0, 0, 0, 0, 0, 0, 0, 0, 1, 1, 0, 3, 1, 35, 0, 0, 0, 0, 0, 35, 0, 0, 0, 0, 0, 0, 35, 0, 1, 0, 0, 1001, 0, 0, 1, 1, 0, 1, 1, 1, 1, 0, 1, 1, 0, 2, 2, 2, 0, 2, 2, 2, 2, 1, 1, 1, 1, 1, 1, 2, 0, 2, 2, 0, 0, 0, 4, 4, 0, 4, 4, 4, 39, 4, 4, 3, 3, 3, 27, 0, 0, 0, 0, 0, 0, 27, 0, 0, 0, 0, 0, 0, 0, 0, 0, 0, 0, 0, 0, 0, 0, 1, 1, 0, 0, 1, 28, 0, 0, 0, 0, 0, 28, 0, 0, 0, 0, 0, 0, 0, 28, 0, 0, 0, 0, 0, 0, 28, 0, 28, 4, 28, 0, 0, 0, 0, 0, 0, 28, 0, 0, 0, 0, 0, 0, 0, 0, 0, 0, 0, 0, 0, 0, 0, 1, 1, 0, 0, 1, 3, 3, 3, 4, 0, 4, 4, 0, 0, 0, 6, 0, 6, 6, 6, 41, 6, 6, 5, 5, 5, 23, 0, 0, 0, 0, 0, 0, 23, 0, 0, 0, 0, 0, 0, 0, 0, 0, 0, 0, 0, 0, 0, 0, 1, 1, 0, 0, 1, 24, 0, 0, 0, 0, 0, 24, 0, 0, 0, 0, 0, 0, 0, 24, 0, 0, 0, 0, 0, 0, 24, 0, 24, 6, 24, 0, 0, 0, 0, 0, 0, 24, 0, 0, 0, 0, 0, 0, 0, 0, 0, 0, 0, 0, 0, 0, 0, 1, 1, 0, 0, 1, 5, 5, 5, 6, 0, 6, 6, 0, 0, 0, 8, 0, 8, 8, 8, 43, 8, 8, 1, 1, 9, 35, 29, 54, 0, 0, 0, 0, 54, 54, 0, 0, 54, 47, 0, 0, 0, 0, 0, 0, 0, 0, 0, 0, 0, 47, 0, 47, 0, 0, 0, 47, 47, 0, 48, 0, 0, 54, 47, 0, 0, 0, 0, 0, 0, 0, 0, 0, 0, 0, 47, 0, 47, 0, 0, 0, 0, 0, 0, 0, 0, 0, 0, 0, 0, 1, 1, 0, 3, 0, 0, 1, 48, 0, 0, 0, 0, 0, 48, 0, 0, 0, 0, 0, 0, 48, 0, 1, 0, 0, 1002, 0, 0, 1, 1, 4, 51, 0, 0, 0, 0, 0, 0, 0, 0, 0, 0, 0, 51, 0, 51, 0, 0, 0, 0, 0, 51, 51, 0, 52, 0, 1, 1, 0, 1, 1, 43, 43, 43, 1, 2, 0, 2, 2, 1, 0, 1, 4, 4, 0, 4, 4, 4, 52, 4, 4, 3, 3, 3, 40, 0, 0, 0, 0, 0, 0, 40, 0, 0, 0, 0, 0, 0, 0, 0, 0, 0, 0, 0, 0, 0, 0, 0, 0, 1, 1, 0, 0, 0, 0, 1, 41, 0, 0, 0, 0, 0, 0, 41, 0, 0, 0, 0, 0, 41, 41, 0, 42, 0, 0, 1, 1, 0, 1, 1, 1, 1, 1, 41, 41, 1, 1, 1, 1, 46, 1, 46, 0, 46, 0, 1, 46, 1, 4, 4, 4, 4, 4, 4, 4, 5, 0, 5, 5, 1, 0, 1, 7, 0, 7, 7, 7, 55, 7, 7, 6, 6, 6, 37, 0, 0, 0, 0, 0, 0, 37, 0, 0, 0, 0, 0, 0, 0, 0, 0, 0, 0, 0, 0, 0, 0, 0, 0, 1, 1, 0, 0, 0, 0, 1, 38, 0, 0, 0, 0, 0, 0, 38, 0, 0, 0, 0, 0, 38, 38, 0, 39, 0, 0, 1, 1, 0, 1, 1, 1, 1, 1, 38, 38, 1, 1, 1, 1, 3, 1, 3, 0, 3, 0, 1, 3, 1, 7, 7, 7, 7, 7, 7, 7, 8, 0, 8, 8, 1, 0, 1, 10, 0, 10, 10, 10, 58, 10, 10, 1, 1, 5, 5, 0, 5, 1, 0, 3, 3, 0, 3, 3, 3, 8, 3, 3, 1, 74, 74, 3, 74, 74, 0, 0, 5, 1, 5, 0, 5, 1, 5, 1, 0, 5, 1, 5, 1, 0, 0, 75, 68, 0, 0, 0, 0, 0, 0, 0, 0, 0, 0, 0, 68, 0, 68, 0, 0, 0, 0, 0, 68, 68, 0, 69, 0, 0, 60, 0, 60, 60, 0, 0, 75, 0, 0, 5, 0, 5, 5, 0, 0, 75, 0, 0, 75, 0, 0, 0, 0, 0, 0, 1, 1, 1, 1, 0, 2, 0, 1, 0, 0, 0, 0, 1, 1, 0, 1, 0, 0, 0, 0, 0, 0, 0, 0, 0, 0, 0, 0, 0, 0, 0, 0, 0, 0, 0, 0, 0, 1, 0, 1, 0, 0, 0, 0, 0, 0, 0, 0, 0, 1, 1, 1, 1, 1, 1, 0, 0, 0, 0, 0, 0, 0, 1, 0, 0, 0, 0, 1, 1, 0, 1, 0, 5, 5, 0, 1, 1, 1, 1, 1, 1, 1, 0, 1, 1, 1, 1, 0, 0, 0, 5, 0, 3, 4, 5, 5, 1, 5, 5, 5, 6, 0, 7, 7, 1, 1, 1, 1, 1, 2, 3, 0, 3, 8, 8, 8, 8, 6, 9, 0, 0, 0, 0, 0, 0, 9, 0, 9, 0, 9, 0, 0, 0, 0, 0, 9, 0, 10, 10, 10, 11, 11, 11, 0, 0, 0, 11, 0, 0, 0, 0, 11, 9, 0, 0, 0, 0, 0, 9, 0, 0, 0, 0, 0, 9, 0, 0, 0, 0, 0, 9, 10, 0, 0, 0, 0, 0, 0, 0, 0, 0, 0, 0, 0, 0, 0, 0, 0, 0, 0, 0, 0, 0, 0, 0, 0, 0, 0, 0, 0, 1, 1, 1, 1, 1, 1, 0, 0, 0, 0, 0, 0, 0, 1, 0, 0, 0, 0, 1, 1, 0, 1, 0, 0, 0, 1, 1, 1, 1, 1, 1, 1, 1, 0, 1, 1, 1, 1, 0, 0, 2, 2, 0, 0, 0, 0, 0, 0, 0, 0, 0, 0, 0, 0, 0, 0, 0, 0, 4, 4, 4, 4, 1, 0, 0, 0, 0, 0, 0, 1, 0, 1, 0, 1, 0, 0, 0, 0, 0, 1, 0, 2, 2, 2, 5, 2, 0, 0, 0, 0, 0, 0, 2, 0, 2, 0, 2, 0, 0, 0, 0, 0, 2, 0, 3, 3, 3, 5, 2, 0, 2, 0, 0, 0, 0, 0, 0, 2, 0, 2, 0, 0, 0, 0, 0, 0, 0, 0, 14, 0, 14, 14, 14, 16, 0, 0, 1, 1, 1, 1, 17, 17, 17, 0, 0, 0, 0, 17, 0, 0, 0, 0, 0, 0, 0, 0, 0, 0, 0, 0, 0, 0, 0, 0, 0, 0, 0, 0, 0, 0, 0, 0, 0, 0, 0, 0, 0, 1, 0, 1, 0, 0, 0, 0, 0, 0, 0, 0, 1, 0, 1, 0, 2, 2, 2, 2, 2, 0, 2, 2, 0, 2, 2, 20, 20, 21, 21, 96, 3, 3, 3, 1, 1, 3, 1, 1, 1, 22, 4, 4, 4, 1, 1, 0, 0, 0, 0, 0, 4, 0, 0, 4, 1, 1, 23, 23, 0, 0, 23, 0, 0, 1, 4, 0, 0, 0, 0, 0, 0, 0, 0, 4, 0, 4, 3, 0, 23, 0, 0, 23, 23, 23, 23, 98, 98, 0, 0, 98, 0, 0, 98, 0, 0, 98, 0, 0, 98, 0, 0, 1, 1, 0, 1, 1, 0, 1, 1, 0, 1, 1, 1, 2, 1, 1, 100, 100, 0, 100, 100, 0, 0, 0, 0, 0, 0, 1, 1, 1, 1, 0, 2, 0, 1, 0, 0, 0, 0, 1, 1, 0, 1, 0, 0, 0, 0, 0, 0, 0, 0, 0, 0, 0, 0, 0, 0, 0, 0, 0, 0, 0, 0, 0, 1, 0, 1, 0, 0, 0, 0, 0, 0, 0, 0, 0, 1, 1, 1, 1, 1, 1, 0, 0, 0, 0, 0, 0, 0, 1, 0, 0, 0, 0, 1, 1, 0, 1, 0, 5, 5, 0, 1, 1, 1, 1, 1, 1, 1, 0, 1, 1, 1, 1, 0, 0, 0, 5, 0, 3, 4, 5, 5, 1, 5, 5, 5, 6, 0, 7, 7, 1, 1, 1, 1, 1, 2, 3, 0, 3, 8, 8, 8, 8, 6, 9, 0, 0, 0, 0, 0, 0, 9, 0, 9, 0, 9, 0, 0, 0, 0, 0, 9, 0, 10, 10, 10, 11, 11, 11, 0, 0, 0, 11, 0, 0, 0, 0, 0, 11, 0, 0, 0, 0, 0, 0, 0, 0, 0, 0, 0, 0, 0, 0, 0, 0, 0, 0, 0, 0, 0, 0, 0, 0, 0, 0, 0, 0, 0, 1, 0, 1, 0, 0, 0, 0, 0, 0, 0, 0, 1, 0, 1, 0, 2, 2, 2, 2, 2, 0, 2, 2, 0, 2, 2, 14, 14, 15, 15, 115, 3, 3, 3, 1, 1, 3, 1, 1, 1, 16, 4, 4, 4, 1, 1, 0, 0, 0, 0, 0, 4, 0, 0, 4, 1, 1, 17, 17, 0, 0, 17, 0, 0, 1, 4, 0, 0, 0, 0, 0, 0, 0, 0, 4, 0, 4, 3, 0, 17, 0, 0, 17, 17, 17, 17, 1, 18, 0, 18, 18, 18, 19, 18, 18, 117, 117, 0, 117, 117, 0, 0, 0, 0, 0, 0, 1, 1, 1, 1, 0, 2, 0, 1, 0, 0, 0, 0, 1, 1, 0, 1, 0, 0, 0, 0, 0, 0, 0, 0, 0, 0, 0, 0, 0, 0, 0, 0, 0, 0, 0, 0, 0, 1, 0, 1, 0, 0, 0, 0, 0, 0, 0, 0, 0, 1, 1, 1, 1, 1, 1, 0, 0, 0, 0, 0, 0, 0, 1, 0, 0, 0, 0, 1, 1, 0, 1, 0, 5, 5, 0, 1, 1, 1, 1, 1, 1, 1, 0, 1, 1, 1, 1, 0, 0, 0, 5, 0, 3, 4, 5, 5, 1, 5, 5, 5, 6, 0, 7, 7, 1, 1, 1, 1, 1, 2, 3, 0, 3, 8, 8, 8, 8, 6, 9, 0, 0, 0, 0, 0, 0, 9, 0, 9, 0, 9, 0, 0, 0, 0, 0, 9, 0, 10, 10, 10, 11, 11, 11, 0, 0, 0, 11, 0, 0, 0, 0, 0, 11, 0, 0, 0, 0, 0, 0, 0, 0, 0, 0, 0, 0, 0, 0, 0, 0, 0, 0, 0, 0, 0, 0, 0, 0, 0, 0, 0, 0, 0, 1, 0, 1, 0, 0, 0, 0, 0, 0, 0, 0, 1, 0, 1, 0, 2, 2, 2, 2, 2, 0, 2, 2, 0, 2, 2, 14, 14, 15, 15, 132, 3, 3, 3, 1, 1, 3, 1, 1, 1, 16, 4, 4, 4, 1, 1, 0, 0, 0, 0, 0, 4, 0, 0, 4, 1, 1, 17, 17, 0, 0, 17, 0, 0, 1, 4, 0, 0, 0, 0, 0, 0, 0, 0, 4, 0, 4, 3, 0, 17, 0, 0, 17, 17, 17, 17, 1, 35, 0, 35, 35, 35, 36, 35, 35, 134, 134, 0, 134, 134, 0, 0, 0, 0, 0, 0, 1, 1, 1, 1, 0, 2, 0, 1, 0, 0, 0, 0, 1, 1, 0, 1, 0, 0, 0, 0, 0, 0, 0, 0, 0, 0, 0, 0, 0, 0, 0, 0, 0, 0, 0, 0, 0, 1, 0, 1, 0, 0, 0, 0, 0, 0, 0, 0, 0, 1, 1, 1, 1, 1, 1, 0, 0, 0, 0, 0, 0, 0, 1, 0, 0, 0, 0, 1, 1, 0, 1, 0, 5, 5, 0, 1, 1, 1, 1, 1, 1, 1, 0, 1, 1, 1, 1, 0, 0, 0, 5, 0, 3, 4, 5, 5, 1, 5, 5, 5, 6, 0, 7, 7, 1, 1, 1, 1, 1, 2, 3, 0, 3, 8, 8, 8, 8, 6, 9, 0, 0, 0, 0, 0, 0, 9, 0, 9, 0, 9, 0, 0, 0, 0, 0, 9, 0, 10, 10, 10, 11, 11, 11, 0, 0, 0, 11, 0, 0, 0, 0, 0, 11, 0, 0, 0, 0, 0, 0, 0, 0, 0, 0, 0, 0, 0, 0, 0, 0, 0, 0, 0, 0, 0, 0, 0, 0, 0, 0, 0, 0, 0, 1, 0, 1, 0, 0, 0, 0, 0, 0, 0, 0, 1, 0, 1, 0, 2, 2, 2, 2, 2, 0, 2, 2, 0, 2, 2, 14, 14, 15, 15, 149, 3, 3, 3, 1, 1, 3, 1, 1, 1, 16, 4, 4, 4, 1, 1, 0, 0, 0, 0, 0, 4, 0, 0, 4, 1, 1, 17, 17, 0, 0, 17, 0, 0, 1, 4, 0, 0, 0, 0, 0, 0, 0, 0, 4, 0, 4, 3, 0, 17, 0, 0, 17, 17, 17, 17, 1, 52, 0, 52, 52, 52, 53, 52, 52, 1]
section
variable (w : World) (f₁ f₂ f₃ : Bool) (h₀ : Heap) (g : Array GenState) (d : Drawn) (os : OsState) (F : FrD) (yL IT : Nat) (q₁ q₂ : Nat) (bk : Value) (b t tb : Nat) (p₁ p₂ p₃ p₄ : Addr × Obj) (sk : Sk)
noncomputable def r_BZE : Out Fin :=
  innerRun w f₁ f₂ f₃ h₀ g d os [48] [] (yL + 358) IT (.str (tS []) tb) ⟨b, t, [p₁, p₂, p₃, p₄, (yL + 358, lawFr { F with fig := [48], kk := 0, n := 0 } bk)], 358, 0, h_BZE, [], (tabs q₁ q₂), []⟩ sk
noncomputable def c_BZE : List Dsc := [
  .addr (b + (48 :: []).length + 497) (b + (48 :: []).length + 491),
  .addr (b + (48 :: []).length + 480) (b + (48 :: []).length + 474),
  .addr (b + (48 :: []).length + 463) (b + (48 :: []).length + 457),
  .addr (b + (48 :: []).length + 438) (b + (48 :: []).length + 432),
  .addr (b + (48 :: []).length + 416) (b + (48 :: []).length + 379),
  .addr (b + (48 :: []).length + 413) (b + 373),
  .join (tS (42 :: [])) (tS []) (tS (48 :: [])),
  .addr (b + (48 :: []).length + 398) (b + (48 :: []).length + 397),
  .repr 0,
  .repr ((PySem.intText? (tS (48 :: []))).getD 0),
  .diff (.str (tS (48 :: [])) ((lpT true (48 :: []) (List.isEmpty ([] : List Nat)) (t + 38) (t + 30) (t + 36)).1 + 26)) (.str (tS (48 :: [])) (F.k 13)),
  .diff (.str (tS (100 :: (105 :: (103 :: (105 :: (116 :: (115 :: []))))))) ((lpT true (48 :: []) (List.isEmpty ([] : List Nat)) (t + 38) (t + 30) (t + 36)).1 + 7)) (.str (tS (100 :: (105 :: (103 :: (105 :: (116 :: (115 :: []))))))) ((lpT true (48 :: []) (List.isEmpty ([] : List Nat)) (t + 38) (t + 30) (t + 36)).1 + 29)),
  .diff (.ref (b + (48 :: []).length + 388)) (.ref (b + (48 :: []).length + 392)),
  .diff (.str (tS (42 :: [])) ((lpT true (48 :: []) (List.isEmpty ([] : List Nat)) (t + 38) (t + 30) (t + 36)).1 + 23)) (.str (tS (42 :: [])) ((lpT true (48 :: []) (List.isEmpty ([] : List Nat)) (t + 38) (t + 30) (t + 36)).1 + 28)),
  .diff (.str (tS (115 :: (101 :: (99 :: (116 :: (105 :: (111 :: (110 :: (45 :: (109 :: (97 :: (114 :: (107 :: (101 :: (114 :: []))))))))))))))) (t + 17)) (.str (tS (115 :: (101 :: (99 :: (116 :: (105 :: (111 :: (110 :: (45 :: (109 :: (97 :: (114 :: (107 :: (101 :: (114 :: []))))))))))))))) ((lpT true (48 :: []) (List.isEmpty ([] : List Nat)) (t + 38) (t + 30) (t + 36)).1 + 27)),
  .diff (.ref (b + (48 :: []).length + 387)) (.ref (b + (48 :: []).length + 391)),
  .txt (tS (48 :: [])),
  .code (lp w f₁ f₂ f₃ (b + 358)) (lp w f₁ f₂ f₃ (b + 358)),
  .eq (tS (48 :: [])) (tS ((48 :: []) ++ [])),
  .le 358 (b + 358),
  .le 358 (b + 375),
  .addr (b + 367) (b + 361)]
theorem t_BZE : (r_BZE w f₁ f₂ f₃ h₀ g d os F yL IT q₁ q₂ bk b t tb p₁ p₂ p₃ p₄ sk).sum [148, 149, 150, 151, 152] =
    some (.again (innerC (KT w f₁ f₂ f₃) (yL + 358) IT), [some p₁, some p₂, some p₃, some p₄, some (yL + 358, lawFr (FrD.turn { F with fig := [48], kk := 0, n := 0 } [] (40 :: (97 :: (41 :: (42 :: (48 :: []))))) (.ref (b + 360)) (.ref (b + (48 :: []).length + 423)) tb (lpT true (48 :: []) (List.isEmpty ([] : List Nat)) (t + 38) (t + 30) (t + 36)).2.1 ((lpT true (48 :: []) (List.isEmpty ([] : List Nat)) (t + 38) (t + 30) (t + 36)).1 + 121)) bk)], ((b + (48 :: []).length), (lpT true (48 :: []) (List.isEmpty ([] : List Nat)) (t + 38) (t + 30) (t + 36)).1, 506, 188, tabs q₁ q₂, [.finished, .finished]), [], (c_BZE w f₁ f₂ f₃ F b t), (r_BZE w f₁ f₂ f₃ h₀ g d os F yL IT q₁ q₂ bk b t tb p₁ p₂ p₃ p₄ sk).rt) := by
  cases f₁ <;> kernel_rfl
end
end Mine

namespace Mine
noncomputable def h_APE : List Nat := [5, 5, 0, 5, 0, 1, 5, 0, 0, 0, 0, 0, 0, 1, 1, 0, 1, 0, 0, 0, 0, 0, 0, 0, 0, 0, 0, 0, 0, 0, 0, 0, 0, 0, 0, 0, 0, 0, 1, 0, 1, 0, 0, 0, 0, 0, 0, 0, 0, 0, 1, 1, 1, 1, 1, 1, 0, 0, 0, 0, 0, 0, 0, 1, 0, 0, 0, 0, 1, 1, 0, 1, 0, 5, 5, 0, 1, 1, 1, 1, 1, 1, 1, 0, 1, 1, 1, 1, 0, 0, 0, 5, 0, 3, 4, 5, 5, 1, 5, 5, 5, 6, 0, 7, 7, 1, 1, 1, 1, 1, 2, 3, 0, 3, 8, 8, 8, 8, 6, 9, 0, 0, 0, 0, 0, 0, 9, 0, 9, 0, 9, 0, 0, 0, 0, 0, 9, 0, 10, 10, 10, 11, 11, 11, 0, 1, 0, 11, 0, 1, 0, 0, 11, 9, 0, 0, 0, 0, 0, 9, 0, 0, 0, 0, 0, 9, 0, 0, 0, 0, 0, 9, 10, 0, 0, 0, 0, 0, 0, 0, 0, 0, 0, 0, 0, 0, 0, 0, 0, 0, 0, 0, 0, 0, 0, 0, 0, 0, 0, 0, 0, 1, 1, 1, 1, 1, 1, 0, 0, 0, 0, 0, 0, 0, 1, 0, 0, 0, 0, 1, 1, 0, 1, 0, 0, 0, 1, 1, 1, 1, 1, 1, 1, 1, 0, 1, 1, 1, 1, 0, 0, 2, 2, 0, 0, 0, 0, 0, 0, 0, 0, 0, 0, 0, 0, 0, 0, 0, 0, 4, 4, 4, 4, 1, 0, 0, 0, 0, 0, 0, 1, 0, 1, 0, 1, 0, 0, 0, 0, 0, 1, 0, 2, 2, 2, 5, 2, 0, 0, 0, 0, 0, 0, 2, 0, 2, 0, 2, 0, 0, 0, 0, 0, 2, 0, 3, 3, 3, 5, 2, 0, 2, 0, 0, 0, 0, 0, 0, 2, 0, 2, 0, 0, 0, 0, 0, 0, 0, 0, 14, 0, 14, 14, 14, 16, 0, 1, 1, 1, 1, 1, 17, 17, 17, 0, 1, 0, 17, 0, 1, 0, 0, 17, 17, 1, 16, 17, 0, 1, 0, 0, 17, 0, 2, 17, 15, 0, 0, 0, 0, 0, 0, 0, 0, 0, 0, 0, 15, 0, 15, 0, 0, 0, 0, 0, 15, 15, 0, 16, 7, 7, 7, 7, 0, 0, 0, 0, 0, 0, 0, 0, 0, 0, 0, 0, 0, 0, 0, 0, 0, 0, 0, 0, 0, 0, 0, 0, 0, 0, 0, 0, 1, 0, 1, 0, 0, 0, 0, 0, 0, 0, 0, 0, 1, 1, 1, 1, 1, 1, 0, 0, 0, 0, 0, 0, 0, 1, 0, 0, 0, 0, 1, 1, 0, 1, 0, 5, 5, 0, 1, 1, 1, 1, 1, 1, 1, 0, 1, 1, 1, 1, 0, 0, 0, 0, 0, 0, 0, 3, 4, 5, 5, 1, 5, 5, 5, 6, 0, 7, 7, 1, 1, 1, 1, 1, 2, 3, 0, 0, 3, 0, 0, 0, 1, 1, 1, 1, 0, 0, 1, 0, 0, 0, 0, 0, 1, 0, 0, 0, 0, 1, 1, 0, 1, 0, 10, 10, 0, 1, 1, 1, 1, 1, 1, 1, 1, 0, 1, 1, 1, 1, 0, 0, 0, 10, 0, 3, 1, 0, 1, 11, 0, 12, 12, 12, 4, 4, 12, 0, 0, 0, 0, 0, 0, 0, 0, 12, 0, 12, 0, 12, 0, 0, 0, 0, 0, 0, 0, 12, 0, 13, 1, 1, 1, 0, 21, 21, 21, 21, 0, 0, 31, 0, 0, 1, 0, 31, 29, 0, 0, 0, 0, 0, 0, 29, 0, 29, 0, 29, 0, 0, 0, 29, 0, 30, 30, 30, 31, 29, 0, 0, 0, 0, 0, 29, 0, 0, 0, 0, 0, 29, 0, 0, 0, 0, 0, 29, 30, 0, 31, 0, 0, 0, 0, 0, 0, 0, 0, 0, 0, 0, 0, 0, 0, 0, 0, 0, 0, 0, 0, 0, 0, 0, 0, 0, 0, 0, 1, 1, 1, 1, 1, 1, 0, 0, 0, 0, 0, 0, 0, 1, 0, 0, 0, 0, 1, 1, 0, 1, 0, 0, 0, 1, 1, 1, 1, 1, 1, 1, 1, 0, 1, 1, 1, 1, 0, 0, 2, 2, 0, 0, 0, 0, 0, 0, 0, 0, 0, 0, 0, 0, 1, 0, 0, 0, 4, 4, 4, 4, 1, 0, 0, 0, 0, 0, 0, 1, 0, 1, 0, 1, 0, 0, 0, 0, 0, 1, 0, 2, 2, 2, 5, 2, 0, 0, 0, 0, 0, 0, 2, 0, 2, 0, 2, 0, 0, 0, 0, 0, 2, 0, 3, 3, 3, 5, 2, 0, 2, 0, 0, 0, 0, 0, 0, 2, 0, 2, 0, 0, 0, 0, 0, 0, 0, 0, 34, 0, 34, 34, 34, 36, 36, 1, 1, 1, 0, 1, 1, 1, 0, 1, 1, 1, 2, 1, 1, 1, 0, 1, 1, 1, 2, 1, 1, 1, 0, 1, 1, 1, 2, 1, 1, 1, 45, 45, 45, 45, 45, 38, 0, 0, 0, 0, 0, 38, 0, 0, 0, 0, 0, 0, 38, 0, 1, 0, 3, 3, 0, 3, 3, 3, 41, 3, 3, 1, 1, 1, 29, 0, 0, 0, 0, 0, 0, 29, 0, 0, 0, 0, 0, 29, 29, 0, 30, 0, 0, 1, 0, 0, 1, 29, 0, 0, 0, 0, 0, 0, 29, 0, 0, 29, 0, 0, 3, 3, 3, 3, 4, 0, 4, 4, 4, 42, 4, 4, 2, 2, 2, 10, 0, 0, 0, 0, 0, 0, 10, 0, 0, 0, 0, 0, 10, 10, 0, 11, 0, 0, 2, 0, 0, 1, 10, 0, 0, 0, 0, 0, 0, 10, 0, 1, 10, 0, 0, 4, 4, 4, 4, 5, 0, 5, 5, 5, 43, 5, 5, 1, 5, 5, 5, 53, 9, 1, 9, 0, 9, 1, 9, 1, 1, 9, 1, 7, 3, 7, 0, 7, 1, 3, 7, 3, 0, 0, 0, 0, 1, 9, 1, 6, 2, 6, 0, 6, 1, 2, 6, 2, 0, 0, 0, 1, 0, 9, 1, 9, 1, 0, 0, 55, 48, 0, 0, 0, 0, 0, 0, 0, 0, 0, 0, 0, 48, 0, 48, 0, 0, 0, 48, 48, 0, 49, 0, 0, 1, 0, 0, 55, 0, 0, 1, 0, 1, 55, 48, 0, 0, 0, 0, 0, 0, 0, 0, 0, 0, 0, 48, 0, 48, 0, 0, 0, 0, 0, 0, 0, 0, 0, 0, 0, 0, 1, 1, 0, 3, 1, 49, 0, 0, 0, 0, 0, 49, 0, 0, 0, 0, 0, 0, 49, 0, 1, 0, 0, 1001, 1001, 1001, 1001, 0, 0, 1, 1, 0, 1, 1, 1, 1, 0, 1, 1, 0, 2, 2, 2, 0, 2, 2, 2, 2, 1, 1, 1, 1, 1, 1, 2, 0, 2, 2, 0, 0, 0, 7, 7, 0, 7, 7, 7, 56, 7, 7, 3, 3, 3, 44, 0, 0, 0, 0, 0, 0, 44, 0, 0, 0, 0, 0, 0, 0, 0, 0, 0, 0, 0, 0, 0, 0, 1, 1, 0, 0, 1, 45, 0, 0, 0, 0, 0, 45, 0, 0, 0, 0, 0, 0, 0, 45, 0, 0, 0, 0, 0, 0, 45, 0, 45, 4, 45, 0, 0, 0, 0, 0, 0, 45, 0, 0, 0, 0, 0, 0, 0, 0, 0, 0, 0, 0, 0, 0, 0, 1, 1, 0, 0, 1, 3, 3, 3, 4, 0, 4, 4, 0, 0, 0, 9, 0, 9, 9, 9, 58, 9, 9, 5, 5, 5, 26, 0, 0, 0, 0, 0, 0, 26, 0, 0, 0, 0, 0, 0, 0, 0, 0, 0, 0, 0, 0, 0, 0, 1, 1, 0, 0, 1, 27, 0, 0, 0, 0, 0, 27, 0, 0, 0, 0, 0, 0, 1, 27, 0, 0, 0, 0, 0, 0, 27, 0, 27, 6, 27, 0, 0, 0, 0, 0, 0, 27, 0, 0, 0, 0, 0, 0, 0, 0, 0, 0, 0, 0, 0, 0, 0, 1, 1, 0, 0, 1, 5, 5, 5, 6, 0, 6, 6, 0, 0, 0, 11, 0, 11, 11, 11, 60, 11, 11, 1, 1, 9, 52, 32, 71, 0, 1, 0, 1, 71, 71, 0, 0, 71, 64, 0, 0, 0, 0, 0, 0, 0, 0, 0, 0, 0, 64, 0, 64, 0, 0, 0, 64, 64, 0, 65, 0, 0, 71, 64, 0, 0, 0, 0, 0, 0, 0, 0, 0, 0, 0, 64, 0, 64, 0, 0, 0, 0, 0, 0, 0, 0, 0, 0, 0, 0, 1, 1, 0, 3, 0, 0, 1, 65, 0, 0, 0, 0, 0, 65, 0, 0, 0, 0, 0, 0, 65, 0, 1, 0, 0, 1002, 1002, 1002, 1002, 0, 0, 1, 1, 7, 71, 0, 0, 0, 0, 0, 0, 0, 0, 0, 0, 0, 71, 0, 71, 0, 0, 0, 0, 0, 71, 71, 0, 72, 0, 1, 1, 0, 1, 1, 63, 63, 63, 1, 2, 0, 2, 2, 1, 0, 1, 7, 7, 0, 7, 7, 7, 72, 7, 7, 3, 3, 3, 60, 0, 0, 0, 0, 0, 0, 60, 0, 0, 0, 0, 0, 0, 0, 0, 0, 0, 0, 0, 0, 0, 0, 0, 0, 1, 1, 0, 0, 0, 0, 1, 61, 0, 0, 0, 0, 0, 0, 61, 0, 0, 0, 0, 0, 61, 61, 0, 62, 0, 0, 1, 1, 0, 1, 1, 1, 1, 1, 61, 61, 1, 1, 1, 1, 66, 1, 66, 0, 66, 0, 1, 66, 1, 4, 4, 4, 4, 4, 4, 4, 5, 0, 5, 5, 1, 0, 1, 10, 0, 10, 10, 10, 75, 10, 10, 6, 6, 6, 43, 0, 0, 0, 0, 0, 0, 43, 0, 0, 0, 0, 0, 0, 0, 0, 0, 0, 0, 0, 0, 0, 0, 0, 0, 1, 1, 0, 0, 0, 0, 1, 44, 0, 0, 0, 0, 0, 0, 44, 0, 0, 0, 0, 0, 44, 44, 0, 45, 0, 0, 1, 1, 0, 1, 1, 1, 1, 1, 44, 44, 1, 1, 1, 1, 3, 1, 3, 0, 3, 0, 1, 3, 1, 7, 7, 7, 7, 7, 7, 7, 8, 0, 8, 8, 1, 0, 1, 13, 0, 13, 13, 13, 78, 13, 13, 1, 1, 5, 5, 0, 5, 1, 0, 3, 3, 0, 3, 3, 3, 8, 3, 3, 1, 1, 0, 0, 1, 0, 0, 69, 1, 69, 0, 0, 0, 0, 0, 0, 0, 0, 0, 0, 0, 0, 0, 0, 0, 69, 0, 69, 0, 0, 0, 0, 0, 0, 0, 69, 69, 0, 57, 0, 3, 3, 3, 3, 4, 0, 4, 4, 4, 9, 4, 4, 1, 95, 95, 4, 4, 4, 95, 95, 0, 1, 7, 1, 7, 0, 7, 1, 7, 1, 1, 7, 1, 5, 2, 5, 0, 5, 1, 2, 5, 2, 0, 0, 0, 7, 1, 7, 1, 0, 0, 97, 90, 0, 0, 0, 0, 0, 0, 0, 0, 0, 0, 0, 90, 0, 90, 0, 0, 0, 0, 0, 90, 90, 0, 91, 0, 0, 82, 0, 82, 82, 0, 0, 97, 0, 0, 7, 0, 7, 7, 0, 0, 97, 0, 0, 97, 0, 0, 0, 0, 0, 0, 1, 1, 1, 1, 0, 2, 0, 1, 0, 0, 0, 0, 1, 1, 0, 1, 0, 0, 0, 0, 0, 0, 0, 0, 0, 0, 0, 0, 0, 0, 0, 0, 0, 0, 0, 0, 0, 1, 0, 1, 0, 0, 0, 0, 0, 0, 0, 0, 0, 1, 1, 1, 1, 1, 1, 0, 0, 0, 0, 0, 0, 0, 1, 0, 0, 0, 0, 1, 1, 0, 1, 0, 5, 5, 0, 1, 1, 1, 1, 1, 1, 1, 0, 1, 1, 1, 1, 0, 0, 0, 5, 0, 3, 4, 5, 5, 1, 5, 5, 5, 6, 0, 7, 7, 1, 1, 1, 1, 1, 2, 3, 0, 3, 8, 8, 8, 8, 6, 9, 0, 0, 0, 0, 0, 0, 9, 0, 9, 0, 9, 0, 0, 0, 0, 0, 9, 0, 10, 10, 10, 11, 11, 11, 0, 0, 0, 11, 0, 0, 0, 0, 11, 9, 0, 0, 0, 0, 0, 9, 0, 0, 0, 0, 0, 9, 0, 0, 0, 0, 0, 9, 10, 0, 0, 0, 0, 0, 0, 0, 0, 0, 0, 0, 0, 0, 0, 0, 0, 0, 0, 0, 0, 0, 0, 0, 0, 0, 0, 0, 0, 1, 1, 1, 1, 1, 1, 0, 0, 0, 0, 0, 0, 0, 1, 0, 0, 0, 0, 1, 1, 0, 1, 0, 0, 0, 1, 1, 1, 1, 1, 1, 1, 1, 0, 1, 1, 1, 1, 0, 0, 2, 2, 0, 0, 0, 0, 0, 0, 0, 0, 0, 0, 0, 0, 0, 0, 0, 0, 4, 4, 4, 4, 1, 0, 0, 0, 0, 0, 0, 1, 0, 1, 0, 1, 0, 0, 0, 0, 0, 1, 0, 2, 2, 2, 5, 2, 0, 0, 0, 0, 0, 0, 2, 0, 2, 0, 2, 0, 0, 0, 0, 0, 2, 0, 3, 3, 3, 5, 2, 0, 2, 0, 0, 0, 0, 0, 0, 2, 0, 2, 0, 0, 0, 0, 0, 0, 0, 0, 14, 0, 14, 14, 14, 16, 0, 0, 1, 1, 1, 1, 17, 17, 17, 0, 0, 0, 0, 17, 0, 0, 0, 0, 0, 0, 0, 0, 0, 0, 0, 0, 0, 0, 0, 0, 0, 0, 0, 0, 0, 0, 0, 0, 0, 0, 0, 0, 0, 1, 0, 1, 0, 0, 0, 0, 0, 0, 0, 0, 1, 0, 1, 0, 2, 2, 2, 2, 2, 0, 2, 2, 0, 2, 2, 20, 20, 21, 21, 118, 118, 3, 3, 3, 1, 1, 3, 1, 1, 1, 22, 4, 4, 4, 1, 1, 0, 0, 0, 0, 0, 4, 0, 0, 4, 1, 1, 23, 23, 0, 0, 23, 0, 0, 1, 4, 0, 0, 0, 0, 0, 0, 0, 0, 4, 0, 4, 3, 0, 23, 0, 0, 23, 23, 23, 23, 120, 120, 0, 0, 120, 0, 1, 120, 0, 0, 120, 0, 1, 120, 0, 0, 1, 1, 0, 1, 1, 0, 1, 1, 0, 1, 1, 1, 2, 1, 1, 122, 122, 0, 122, 122, 0, 1, 0, 0, 0, 0, 1, 1, 1, 1, 0, 2, 0, 1, 0, 0, 0, 0, 1, 1, 0, 1, 0, 0, 0, 0, 0, 0, 0, 0, 0, 0, 0, 0, 0, 0, 0, 0, 0, 0, 0, 0, 0, 1, 0, 1, 0, 0, 0, 0, 0, 0, 0, 0, 0, 1, 1, 1, 1, 1, 1, 0, 0, 0, 0, 0, 0, 0, 1, 0, 0, 0, 0, 1, 1, 0, 1, 0, 5, 5, 0, 1, 1, 1, 1, 1, 1, 1, 0, 1, 1, 1, 1, 0, 0, 0, 5, 0, 3, 4, 5, 5, 1, 5, 5, 5, 6, 0, 7, 7, 1, 1, 1, 1, 1, 2, 3, 0, 3, 8, 8, 8, 8, 6, 9, 0, 0, 0, 0, 0, 0, 9, 0, 9, 0, 9, 0, 0, 0, 0, 0, 9, 0, 10, 10, 10, 11, 11, 11, 0, 1, 0, 11, 0, 1, 0, 0, 0, 11, 0, 1, 0, 0, 0, 0, 0, 0, 0, 0, 0, 0, 0, 0, 0, 0, 0, 0, 0, 0, 0, 0, 0, 0, 0, 0, 0, 0, 0, 1, 0, 1, 0, 0, 0, 0, 0, 0, 0, 0, 1, 0, 1, 0, 2, 2, 2, 2, 2, 0, 2, 2, 0, 2, 2, 14, 14, 15, 15, 137, 3, 3, 3, 1, 1, 3, 1, 1, 1, 16, 4, 4, 4, 1, 1, 0, 0, 0, 0, 0, 4, 0, 0, 4, 1, 1, 17, 17, 0, 0, 17, 0, 0, 1, 4, 0, 0, 0, 0, 0, 0, 0, 0, 4, 0, 4, 3, 0, 17, 0, 1, 17, 17, 17, 17, 1, 18, 0, 18, 18, 18, 19, 18, 18, 139, 139, 0, 139, 139, 0, 1, 0, 0, 0, 0, 1, 1, 1, 1, 0, 2, 0, 1, 0, 0, 0, 0, 1, 1, 0, 1, 0, 0, 0, 0, 0, 0, 0, 0, 0, 0, 0, 0, 0, 0, 0, 0, 0, 0, 0, 0, 0, 1, 0, 1, 0, 0, 0, 0, 0, 0, 0, 0, 0, 1, 1, 1, 1, 1, 1, 0, 0, 0, 0, 0, 0, 0, 1, 0, 0, 0, 0, 1, 1, 0, 1, 0, 5, 5, 0, 1, 1, 1, 1, 1, 1, 1, 0, 1, 1, 1, 1, 0, 0, 0, 5, 0, 3, 4, 5, 5, 1, 5, 5, 5, 6, 0, 7, 7, 1, 1, 1, 1, 1, 2, 3, 0, 3, 8, 8, 8, 8, 6, 9, 0, 0, 0, 0, 0, 0, 9, 0, 9, 0, 9, 0, 0, 0, 0, 0, 9, 0, 10, 10, 10, 11, 11, 11, 0, 1, 0, 11, 0, 1, 0, 0, 0, 11, 0, 1, 0, 0, 0, 0, 0, 0, 0, 0, 0, 0, 0, 0, 0, 0, 0, 0, 0, 0, 0, 0, 0, 0, 0, 0, 0, 0, 0, 1, 0, 1, 0, 0, 0, 0, 0, 0, 0, 0, 1, 0, 1, 0, 2, 2, 2, 2, 2, 0, 2, 2, 0, 2, 2, 14, 14, 15, 15, 154, 3, 3, 3, 1, 1, 3, 1, 1, 1, 16, 4, 4, 4, 1, 1, 0, 0, 0, 0, 0, 4, 0, 0, 4, 1, 1, 17, 17, 0, 0, 17, 0, 0, 1, 4, 0, 0, 0, 0, 0, 0, 0, 0, 4, 0, 4, 3, 0, 17, 0, 1, 17, 17, 17, 17, 1, 35, 0, 35, 35, 35, 36, 35, 35, 156, 156, 0, 156, 156, 0, 1, 0, 0, 0, 0, 1, 1, 1, 1, 0, 2, 0, 1, 0, 0, 0, 0, 1, 1, 0, 1, 0, 0, 0, 0, 0, 0, 0, 0, 0, 0, 0, 0, 0, 0, 0, 0, 0, 0, 0, 0, 0, 1, 0, 1, 0, 0, 0, 0, 0, 0, 0, 0, 0, 1, 1, 1, 1, 1, 1, 0, 0, 0, 0, 0, 0, 0, 1, 0, 0, 0, 0, 1, 1, 0, 1, 0, 5, 5, 0, 1, 1, 1, 1, 1, 1, 1, 0, 1, 1, 1, 1, 0, 0, 0, 5, 0, 3, 4, 5, 5, 1, 5, 5, 5, 6, 0, 7, 7, 1, 1, 1, 1, 1, 2, 3, 0, 3, 8, 8, 8, 8, 6, 9, 0, 0, 0, 0, 0, 0, 9, 0, 9, 0, 9, 0, 0, 0, 0, 0, 9, 0, 10, 10, 10, 11, 11, 11, 0, 1, 0, 11, 0, 1, 0, 0, 0, 11, 0, 1, 0, 0, 0, 0, 0, 0, 0, 0, 0, 0, 0, 0, 0, 0, 0, 0, 0, 0, 0, 0, 0, 0, 0, 0, 0, 0, 0, 1, 0, 1, 0, 0, 0, 0, 0, 0, 0, 0, 1, 0, 1, 0, 2, 2, 2, 2, 2, 0, 2, 2, 0, 2, 2, 14, 14, 15, 15, 171, 3, 3, 3, 1, 1, 3, 1, 1, 1, 16, 4, 4, 4, 1, 1, 0, 0, 0, 0, 0, 4, 0, 0, 4, 1, 1, 17, 17, 0, 0, 17, 0, 0, 1, 4, 0, 0, 0, 0, 0, 0, 0, 0, 4, 0, 4, 3, 0, 17, 0, 1, 17, 17, 17, 17, 1, 52, 0, 52, 52, 52, 53, 52, 52, 1]
section
variable (w : World) (f₁ f₂ f₃ : Bool) (h₀ : Heap) (g : Array GenState) (d : Drawn) (os : OsState) (F : FrD) (x : Nat) (r : List Nat) (yL IT : Nat) (b t tb : Nat) (p₁ p₂ p₃ p₄ : Addr × Obj) (sk : Sk)
noncomputable def r_APE : Out Fin :=
  innerRun w f₁ f₂ f₃ h₀ g d os (48 :: x :: r) [] (yL + 358) IT (.str (tS []) tb) ⟨b, t, [p₁, p₂, p₃, p₄, (yL + 358, lawFrA { F with fig := (48 :: x :: r) })], 358, 0, h_APE, [], tabs0, []⟩ sk
noncomputable def c_APE : List Dsc := [
  .eq (tS (69 :: (120 :: (112 :: (101 :: (99 :: (116 :: (101 :: (100 :: (32 :: (115 :: (101 :: (99 :: (116 :: (105 :: (111 :: (110 :: (32 :: (98 :: (117 :: (116 :: (32 :: (102 :: (111 :: (117 :: (110 :: (100 :: (32 :: (40 :: (97 :: (41 :: (42 :: (48 :: (x :: r)))))))))))))))))))))))))))))))))) (tS (69 :: (120 :: (112 :: (101 :: (99 :: (116 :: (101 :: (100 :: (32 :: (115 :: (101 :: (99 :: (116 :: (105 :: (111 :: (110 :: (32 :: (98 :: (117 :: (116 :: (32 :: (102 :: (111 :: (117 :: (110 :: (100 :: (32 :: (40 :: (97 :: (41 :: (42 :: (48 :: (x :: r)))))))))))))))))))))))))))))))))),
  .fmt (27 + (tS (40 :: (97 :: (41 :: (42 :: (48 :: (x :: r))))))).length) (69 :: (120 :: (112 :: (101 :: (99 :: (116 :: (101 :: (100 :: (32 :: (115 :: (101 :: (99 :: (116 :: (105 :: (111 :: (110 :: (32 :: (98 :: (117 :: (116 :: (32 :: (102 :: (111 :: (117 :: (110 :: (100 :: (32 :: (40 :: (97 :: (41 :: (42 :: (48 :: (x :: r))))))))))))))))))))))))))))))))),
  .small (((tS (40 :: (97 :: (41 :: (42 :: (48 :: (x :: r))))))).length : Nat) : Int),
  .addr (b + (48 :: (x :: r)).length + 519) (b + (48 :: (x :: r)).length + 513),
  .add (tS (69 :: (120 :: (112 :: (101 :: (99 :: (116 :: (101 :: (100 :: (32 :: (115 :: (101 :: (99 :: (116 :: (105 :: (111 :: (110 :: (32 :: (98 :: (117 :: (116 :: (32 :: (102 :: (111 :: (117 :: (110 :: (100 :: (32 :: [])))))))))))))))))))))))))))) (tS (40 :: (97 :: (41 :: (42 :: (48 :: (x :: r))))))),
  .eq (tS (69 :: (120 :: (112 :: (101 :: (99 :: (116 :: (101 :: (100 :: (32 :: (115 :: (101 :: (99 :: (116 :: (105 :: (111 :: (110 :: (32 :: (98 :: (117 :: (116 :: (32 :: (102 :: (111 :: (117 :: (110 :: (100 :: (32 :: (32 :: (42 :: (48 :: (x :: r)))))))))))))))))))))))))))))))) (tS (69 :: (120 :: (112 :: (101 :: (99 :: (116 :: (101 :: (100 :: (32 :: (115 :: (101 :: (99 :: (116 :: (105 :: (111 :: (110 :: (32 :: (98 :: (117 :: (116 :: (32 :: (102 :: (111 :: (117 :: (110 :: (100 :: (32 :: (32 :: (42 :: (48 :: (x :: r)))))))))))))))))))))))))))))))),
  .fmt (27 + (tS (32 :: (42 :: (48 :: (x :: r))))).length) (69 :: (120 :: (112 :: (101 :: (99 :: (116 :: (101 :: (100 :: (32 :: (115 :: (101 :: (99 :: (116 :: (105 :: (111 :: (110 :: (32 :: (98 :: (117 :: (116 :: (32 :: (102 :: (111 :: (117 :: (110 :: (100 :: (32 :: (32 :: (42 :: (48 :: (x :: r))))))))))))))))))))))))))))))),
  .small (((tS (32 :: (42 :: (48 :: (x :: r))))).length : Nat) : Int),
  .addr (b + (48 :: (x :: r)).length + 502) (b + (48 :: (x :: r)).length + 496),
  .add (tS (69 :: (120 :: (112 :: (101 :: (99 :: (116 :: (101 :: (100 :: (32 :: (115 :: (101 :: (99 :: (116 :: (105 :: (111 :: (110 :: (32 :: (98 :: (117 :: (116 :: (32 :: (102 :: (111 :: (117 :: (110 :: (100 :: (32 :: [])))))))))))))))))))))))))))) (tS (32 :: (42 :: (48 :: (x :: r))))),
  .eq (tS (69 :: (120 :: (112 :: (101 :: (99 :: (116 :: (101 :: (100 :: (32 :: (115 :: (101 :: (99 :: (116 :: (105 :: (111 :: (110 :: (32 :: (98 :: (117 :: (116 :: (32 :: (102 :: (111 :: (117 :: (110 :: (100 :: (32 :: (48 :: (x :: r)))))))))))))))))))))))))))))) (tS (69 :: (120 :: (112 :: (101 :: (99 :: (116 :: (101 :: (100 :: (32 :: (115 :: (101 :: (99 :: (116 :: (105 :: (111 :: (110 :: (32 :: (98 :: (117 :: (116 :: (32 :: (102 :: (111 :: (117 :: (110 :: (100 :: (32 :: (48 :: (x :: r)))))))))))))))))))))))))))))),
  .fmt (27 + (tS (48 :: (x :: r))).length) (69 :: (120 :: (112 :: (101 :: (99 :: (116 :: (101 :: (100 :: (32 :: (115 :: (101 :: (99 :: (116 :: (105 :: (111 :: (110 :: (32 :: (98 :: (117 :: (116 :: (32 :: (102 :: (111 :: (117 :: (110 :: (100 :: (32 :: (48 :: (x :: r))))))))))))))))))))))))))))),
  .small (((tS (48 :: (x :: r))).length : Nat) : Int),
  .addr (b + (48 :: (x :: r)).length + 485) (b + (48 :: (x :: r)).length + 479),
  .add (tS (69 :: (120 :: (112 :: (101 :: (99 :: (116 :: (101 :: (100 :: (32 :: (115 :: (101 :: (99 :: (116 :: (105 :: (111 :: (110 :: (32 :: (98 :: (117 :: (116 :: (32 :: (102 :: (111 :: (117 :: (110 :: (100 :: (32 :: [])))))))))))))))))))))))))))) (tS (48 :: (x :: r))),
  .add (tS (40 :: (97 :: (41 :: (42 :: []))))) (tS (48 :: (x :: r))),
  .add (tS (32 :: (42 :: []))) (tS (48 :: (x :: r))),
  .addr (b + (48 :: (x :: r)).length + 460) (b + (48 :: (x :: r)).length + 454),
  .diff (.str (tS (115 :: (101 :: (99 :: (116 :: (105 :: (111 :: (110 :: (32 :: (110 :: (117 :: (109 :: (98 :: (101 :: (114 :: (32 :: (104 :: (97 :: (115 :: (32 :: (97 :: (110 :: (32 :: (105 :: (110 :: (118 :: (97 :: (108 :: (105 :: (100 :: (32 :: (108 :: (101 :: (97 :: (100 :: (105 :: (110 :: (103 :: (32 :: (48 :: [])))))))))))))))))))))))))))))))))))))))) ((lpT true (48 :: (x :: r)) (List.isEmpty ([] : List Nat)) (t + 38) (t + 30) (t + 36)).1 + 5)) (.str (tS (115 :: (101 :: (99 :: (116 :: (105 :: (111 :: (110 :: (32 :: (110 :: (117 :: (109 :: (98 :: (101 :: (114 :: (32 :: (104 :: (97 :: (115 :: (32 :: (97 :: (110 :: (32 :: (105 :: (110 :: (118 :: (97 :: (108 :: (105 :: (100 :: (32 :: (108 :: (101 :: (97 :: (100 :: (105 :: (110 :: (103 :: (32 :: (48 :: [])))))))))))))))))))))))))))))))))))))))) ((lpT true (48 :: (x :: r)) (List.isEmpty ([] : List Nat)) (t + 38) (t + 30) (t + 36)).1 + 97)),
  .diff (.ref (b + (48 :: (x :: r)).length + 445)) (.ref (b + (48 :: (x :: r)).length + 448)),
  .gt F.kk 0,
  .addr (b + (48 :: (x :: r)).length + 436) (b + (48 :: (x :: r)).length + 393),
  .addr (b + (48 :: (x :: r)).length + 433) (b + 373),
  .eq (tS (42 :: (48 :: (x :: r)))) (tS (42 :: (48 :: (x :: r)))),
  .add (tS (42 :: [])) (tS (48 :: (x :: r))),
  .join (tS (42 :: [])) (tS []) (tS (48 :: (x :: r))),
  .small (((tS (48 :: (x :: r))).length : Nat) : Int),
  .addr (b + (48 :: (x :: r)).length + 415) (b + (48 :: (x :: r)).length + 414),
  .eq (tS (digs ((PySem.intText? (tS (48 :: x :: r))).getD 0))) (tS (digs F.n)),
  .repr F.n,
  .repr ((PySem.intText? (tS (48 :: (x :: r)))).getD 0),
  .eq (tS (48 :: (x :: r))) (tS (48 :: (x :: r))),
  .diff (.str (tS (48 :: (x :: r))) ((lpT true (48 :: (x :: r)) (List.isEmpty ([] : List Nat)) (t + 38) (t + 30) (t + 36)).1 + 37)) (.str (tS (48 :: (x :: r))) (F.k 13)),
  .diff (.str (tS (100 :: (105 :: (103 :: (105 :: (116 :: (115 :: []))))))) ((lpT true (48 :: (x :: r)) (List.isEmpty ([] : List Nat)) (t + 38) (t + 30) (t + 36)).1 + 18)) (.str (tS (100 :: (105 :: (103 :: (105 :: (116 :: (115 :: []))))))) ((lpT true (48 :: (x :: r)) (List.isEmpty ([] : List Nat)) (t + 38) (t + 30) (t + 36)).1 + 40)),
  .diff (.ref (b + (48 :: (x :: r)).length + 402)) (.ref (b + (48 :: (x :: r)).length + 406)),
  .diff (.str (tS (42 :: [])) ((lpT true (48 :: (x :: r)) (List.isEmpty ([] : List Nat)) (t + 38) (t + 30) (t + 36)).1 + 34)) (.str (tS (42 :: [])) ((lpT true (48 :: (x :: r)) (List.isEmpty ([] : List Nat)) (t + 38) (t + 30) (t + 36)).1 + 39)),
  .diff (.str (tS (115 :: (101 :: (99 :: (116 :: (105 :: (111 :: (110 :: (45 :: (109 :: (97 :: (114 :: (107 :: (101 :: (114 :: []))))))))))))))) (t + 17)) (.str (tS (115 :: (101 :: (99 :: (116 :: (105 :: (111 :: (110 :: (45 :: (109 :: (97 :: (114 :: (107 :: (101 :: (114 :: []))))))))))))))) ((lpT true (48 :: (x :: r)) (List.isEmpty ([] : List Nat)) (t + 38) (t + 30) (t + 36)).1 + 38)),
  .diff (.ref (b + (48 :: (x :: r)).length + 401)) (.ref (b + (48 :: (x :: r)).length + 405)),
  .str (tS (48 :: (x :: r))),
  .str (tS (48 :: (x :: r))),
  .txt (tS (48 :: (x :: r))),
  .addr (b + (48 :: (x :: r)).length + 383) (b + (48 :: (x :: r)).length + 377),
  .ne (tS (48 :: (x :: r))) (tS (48 :: [])),
  .code (lp w f₁ f₂ f₃ (b + 358)) (lp w f₁ f₂ f₃ (b + 358)),
  .eq (tS (48 :: (x :: r))) (tS ((48 :: (x :: r)) ++ [])),
  .le 358 (b + 358),
  .le 358 (b + 375),
  .small (((tS (48 :: (x :: r))).length : Nat) : Int),
  .size (48 :: (x :: r)),
  .small (((tS (42 :: (48 :: (x :: r)))).length : Nat) : Int),
  .addr (b + 367) (b + 361),
  .add (tS (42 :: [])) (tS (48 :: (x :: r)))]
theorem t_APE : (r_APE w f₁ f₂ f₃ h₀ g d os F x r yL IT b t tb p₁ p₂ p₃ p₄ sk).sumE [170, 171, 172, 173] 174 =
    some (.again (innerC (KT w f₁ f₂ f₃) (yL + 358) IT), [some p₁, some p₂, some p₃, some p₄], ((b + (48 :: (x :: r)).length), (lpT true (48 :: (x :: r)) (List.isEmpty ([] : List Nat)) (t + 38) (t + 30) (t + 36)).1, 528, 212, [(147, X.tableObj #[.int 41 0, .int 23 0, .ref (b + (48 :: (x :: r)).length + 412)]), (155, X.tableObj #[.int 45 0, .int 19 0, .ref (b + (48 :: (x :: r)).length + 428)])], [.finished, .finished]), [], (c_APE w f₁ f₂ f₃ F x r b t), (r_APE w f₁ f₂ f₃ h₀ g d os F x r yL IT b t tb p₁ p₂ p₃ p₄ sk).rt, some (yL + 358, lawFr (FrD.turnA { F with fig := (48 :: x :: r) } (wF w f₁ f₂ f₃).params [] (40 :: (97 :: (41 :: (42 :: (48 :: (x :: r)))))) (.ref (b + 360)) (.ref (b + (48 :: (x :: r)).length + 443)) tb (lpT true (48 :: (x :: r)) (List.isEmpty ([] : List Nat)) (t + 38) (t + 30) (t + 36)).2.1 ((lpT true (48 :: (x :: r)) (List.isEmpty ([] : List Nat)) (t + 38) (t + 30) (t + 36)).1 + 145) (t + 0) ((lpT true (48 :: (x :: r)) (List.isEmpty ([] : List Nat)) (t + 38) (t + 30) (t + 36)).1 + 30) ((lpT true (48 :: (x :: r)) (List.isEmpty ([] : List Nat)) (t + 38) (t + 30) (t + 36)).1 + 31) ((lpT true (48 :: (x :: r)) (List.isEmpty ([] : List Nat)) (t + 38) (t + 30) (t + 36)).1 + 95) ((lpT true (48 :: (x :: r)) (List.isEmpty ([] : List Nat)) (t + 38) (t + 30) (t + 36)).1 + 146)) .none)) := by
  cases f₁ <;> kernel_rfl
end
end Mine

namespace Mine
noncomputable def h_AHE : List Nat := [5, 5, 0, 5, 0, 1, 5, 0, 0, 0, 0, 0, 0, 1, 1, 0, 1, 0, 0, 0, 0, 0, 0, 0, 0, 0, 0, 0, 0, 0, 0, 0, 0, 0, 0, 0, 0, 0, 1, 0, 1, 0, 0, 0, 0, 0, 0, 0, 0, 0, 1, 1, 1, 1, 1, 1, 0, 0, 0, 0, 0, 0, 0, 1, 0, 0, 0, 0, 1, 1, 0, 1, 0, 5, 5, 0, 1, 1, 1, 1, 1, 1, 1, 0, 1, 1, 1, 1, 0, 0, 0, 5, 0, 3, 4, 5, 5, 1, 5, 5, 5, 6, 0, 7, 7, 1, 1, 1, 1, 1, 2, 3, 0, 3, 8, 8, 8, 8, 6, 9, 0, 0, 0, 0, 0, 0, 9, 0, 9, 0, 9, 0, 0, 0, 0, 0, 9, 0, 10, 10, 10, 11, 11, 11, 0, 1, 0, 11, 0, 1, 0, 0, 11, 9, 0, 0, 0, 0, 0, 9, 0, 0, 0, 0, 0, 9, 0, 0, 0, 0, 0, 9, 10, 0, 0, 0, 0, 0, 0, 0, 0, 0, 0, 0, 0, 0, 0, 0, 0, 0, 0, 0, 0, 0, 0, 0, 0, 0, 0, 0, 0, 1, 1, 1, 1, 1, 1, 0, 0, 0, 0, 0, 0, 0, 1, 0, 0, 0, 0, 1, 1, 0, 1, 0, 0, 0, 1, 1, 1, 1, 1, 1, 1, 1, 0, 1, 1, 1, 1, 0, 0, 2, 2, 0, 0, 0, 0, 0, 0, 0, 0, 0, 0, 0, 0, 0, 0, 0, 0, 4, 4, 4, 4, 1, 0, 0, 0, 0, 0, 0, 1, 0, 1, 0, 1, 0, 0, 0, 0, 0, 1, 0, 2, 2, 2, 5, 2, 0, 0, 0, 0, 0, 0, 2, 0, 2, 0, 2, 0, 0, 0, 0, 0, 2, 0, 3, 3, 3, 5, 2, 0, 2, 0, 0, 0, 0, 0, 0, 2, 0, 2, 0, 0, 0, 0, 0, 0, 0, 0, 14, 0, 14, 14, 14, 16, 0, 1, 1, 1, 1, 1, 17, 17, 17, 0, 1, 0, 17, 0, 1, 0, 1, 17, 17, 1, 16, 17, 0, 1, 0, 2, 0, 0, 17, 0, 0, 1, 0, 17, 15, 0, 0, 0, 0, 0, 0, 15, 0, 15, 0, 15, 0, 0, 0, 15, 0, 16, 16, 16, 17, 15, 0, 0, 0, 0, 0, 15, 0, 0, 0, 0, 0, 15, 0, 0, 0, 0, 0, 15, 16, 0, 17, 0, 0, 0, 0, 0, 0, 0, 0, 0, 0, 0, 0, 0, 0, 0, 0, 0, 0, 0, 0, 0, 0, 0, 0, 0, 0, 0, 1, 1, 1, 1, 1, 1, 0, 0, 0, 0, 0, 0, 0, 1, 0, 0, 0, 0, 1, 1, 0, 1, 0, 0, 0, 1, 1, 1, 1, 1, 1, 1, 1, 0, 1, 1, 1, 1, 0, 0, 2, 2, 0, 0, 0, 0, 0, 0, 0, 0, 0, 0, 0, 0, 1, 0, 0, 0, 4, 4, 4, 4, 1, 0, 0, 0, 0, 0, 0, 1, 0, 1, 0, 1, 0, 0, 0, 0, 0, 1, 0, 2, 2, 2, 5, 2, 0, 0, 0, 0, 0, 0, 2, 0, 2, 0, 2, 0, 0, 0, 0, 0, 2, 0, 3, 3, 3, 5, 2, 0, 2, 0, 0, 0, 0, 0, 0, 2, 0, 2, 0, 0, 0, 0, 0, 0, 0, 0, 20, 0, 20, 20, 20, 22, 22, 1, 1, 1, 0, 1, 1, 1, 0, 1, 1, 1, 2, 1, 1, 1, 0, 1, 1, 1, 2, 1, 1, 1, 0, 1, 1, 1, 2, 1, 1, 1, 31, 31, 31, 31, 31, 24, 0, 0, 0, 0, 0, 24, 0, 0, 0, 0, 0, 0, 24, 0, 1, 0, 3, 3, 0, 3, 3, 3, 27, 3, 3, 1, 1, 1, 15, 0, 0, 0, 0, 0, 0, 15, 0, 0, 0, 0, 0, 15, 15, 0, 16, 0, 0, 1, 0, 0, 1, 15, 0, 0, 0, 0, 0, 0, 15, 0, 0, 15, 0, 0, 3, 3, 3, 3, 4, 0, 4, 4, 4, 28, 4, 4, 2, 2, 2, 10, 0, 0, 0, 0, 0, 0, 10, 0, 0, 0, 0, 0, 10, 10, 0, 11, 0, 0, 2, 0, 0, 1, 10, 0, 0, 0, 0, 0, 0, 10, 0, 1, 10, 0, 0, 4, 4, 4, 4, 5, 0, 5, 5, 5, 29, 5, 5, 1, 5, 5, 5, 39, 9, 1, 9, 0, 9, 1, 9, 1, 1, 9, 1, 7, 3, 7, 0, 7, 1, 3, 7, 3, 0, 0, 0, 0, 1, 9, 1, 6, 2, 6, 0, 6, 1, 2, 6, 2, 0, 0, 0, 1, 0, 9, 1, 9, 1, 0, 0, 41, 34, 0, 0, 0, 0, 0, 0, 0, 0, 0, 0, 0, 34, 0, 34, 0, 0, 0, 34, 34, 0, 35, 0, 0, 1, 0, 0, 41, 0, 0, 1, 0, 1, 41, 34, 0, 0, 0, 0, 0, 0, 0, 0, 0, 0, 0, 34, 0, 34, 0, 0, 0, 0, 0, 0, 0, 0, 0, 0, 0, 0, 1, 1, 0, 3, 1, 35, 0, 0, 0, 0, 0, 35, 0, 0, 0, 0, 0, 0, 35, 0, 1, 0, 0, 1001, 1001, 1001, 1001, 0, 0, 1, 1, 0, 1, 1, 1, 1, 0, 1, 1, 0, 2, 2, 2, 0, 2, 2, 2, 2, 1, 1, 1, 1, 1, 1, 2, 0, 2, 2, 0, 0, 0, 7, 7, 0, 7, 7, 7, 42, 7, 7, 3, 3, 3, 30, 0, 0, 0, 0, 0, 0, 30, 0, 0, 0, 0, 0, 0, 0, 0, 0, 0, 0, 0, 0, 0, 0, 1, 1, 0, 0, 1, 31, 0, 0, 0, 0, 0, 31, 0, 0, 0, 0, 0, 0, 0, 31, 0, 0, 0, 0, 0, 0, 31, 0, 31, 4, 31, 0, 0, 0, 0, 0, 0, 31, 0, 0, 0, 0, 0, 0, 0, 0, 0, 0, 0, 0, 0, 0, 0, 1, 1, 0, 0, 1, 3, 3, 3, 4, 0, 4, 4, 0, 0, 0, 9, 0, 9, 9, 9, 44, 9, 9, 5, 5, 5, 26, 0, 0, 0, 0, 0, 0, 26, 0, 0, 0, 0, 0, 0, 0, 0, 0, 0, 0, 0, 0, 0, 0, 1, 1, 0, 0, 1, 27, 0, 0, 0, 0, 0, 27, 0, 0, 0, 0, 0, 0, 1, 27, 0, 0, 0, 0, 0, 0, 27, 0, 27, 6, 27, 0, 0, 0, 0, 0, 0, 27, 0, 0, 0, 0, 0, 0, 0, 0, 0, 0, 0, 0, 0, 0, 0, 1, 1, 0, 0, 1, 5, 5, 5, 6, 0, 6, 6, 0, 0, 0, 11, 0, 11, 11, 11, 46, 11, 11, 1, 1, 9, 38, 32, 57, 0, 1, 0, 1, 57, 57, 0, 0, 57, 50, 0, 0, 0, 0, 0, 0, 0, 0, 0, 0, 0, 50, 0, 50, 0, 0, 0, 50, 50, 0, 51, 0, 0, 57, 50, 0, 0, 0, 0, 0, 0, 0, 0, 0, 0, 0, 50, 0, 50, 0, 0, 0, 0, 0, 0, 0, 0, 0, 0, 0, 0, 1, 1, 0, 3, 0, 0, 1, 51, 0, 0, 0, 0, 0, 51, 0, 0, 0, 0, 0, 0, 51, 0, 1, 0, 0, 1002, 1002, 1002, 1002, 0, 0, 1, 1, 7, 57, 0, 0, 0, 0, 0, 0, 0, 0, 0, 0, 0, 57, 0, 57, 0, 0, 0, 0, 0, 57, 57, 0, 58, 0, 1, 1, 0, 1, 1, 49, 49, 49, 1, 2, 0, 2, 2, 1, 0, 1, 7, 7, 0, 7, 7, 7, 58, 7, 7, 3, 3, 3, 46, 0, 0, 0, 0, 0, 0, 46, 0, 0, 0, 0, 0, 0, 0, 0, 0, 0, 0, 0, 0, 0, 0, 0, 0, 1, 1, 0, 0, 0, 0, 1, 47, 0, 0, 0, 0, 0, 0, 47, 0, 0, 0, 0, 0, 47, 47, 0, 48, 0, 0, 1, 1, 0, 1, 1, 1, 1, 1, 47, 47, 1, 1, 1, 1, 52, 1, 52, 0, 52, 0, 1, 52, 1, 4, 4, 4, 4, 4, 4, 4, 5, 0, 5, 5, 1, 0, 1, 10, 0, 10, 10, 10, 61, 10, 10, 6, 6, 6, 43, 0, 0, 0, 0, 0, 0, 43, 0, 0, 0, 0, 0, 0, 0, 0, 0, 0, 0, 0, 0, 0, 0, 0, 0, 1, 1, 0, 0, 0, 0, 1, 44, 0, 0, 0, 0, 0, 0, 44, 0, 0, 0, 0, 0, 44, 44, 0, 45, 0, 0, 1, 1, 0, 1, 1, 1, 1, 1, 44, 44, 1, 1, 1, 1, 3, 1, 3, 0, 3, 0, 1, 3, 1, 7, 7, 7, 7, 7, 7, 7, 8, 0, 8, 8, 1, 0, 1, 13, 0, 13, 13, 13, 64, 13, 13, 1, 1, 5, 5, 0, 5, 1, 0, 3, 3, 0, 3, 3, 3, 8, 3, 3, 1, 80, 80, 3, 80, 80, 0, 0, 5, 1, 5, 0, 5, 1, 5, 1, 0, 5, 1, 5, 1, 0, 0, 81, 74, 0, 0, 0, 0, 0, 0, 0, 0, 0, 0, 0, 74, 0, 74, 0, 0, 0, 0, 0, 74, 74, 0, 75, 0, 0, 66, 0, 66, 66, 0, 0, 81, 0, 0, 5, 0, 5, 5, 0, 0, 81, 0, 0, 81, 0, 0, 0, 0, 0, 0, 1, 1, 1, 1, 0, 2, 0, 1, 0, 0, 0, 0, 1, 1, 0, 1, 0, 0, 0, 0, 0, 0, 0, 0, 0, 0, 0, 0, 0, 0, 0, 0, 0, 0, 0, 0, 0, 1, 0, 1, 0, 0, 0, 0, 0, 0, 0, 0, 0, 1, 1, 1, 1, 1, 1, 0, 0, 0, 0, 0, 0, 0, 1, 0, 0, 0, 0, 1, 1, 0, 1, 0, 5, 5, 0, 1, 1, 1, 1, 1, 1, 1, 0, 1, 1, 1, 1, 0, 0, 0, 5, 0, 3, 4, 5, 5, 1, 5, 5, 5, 6, 0, 7, 7, 1, 1, 1, 1, 1, 2, 3, 0, 3, 8, 8, 8, 8, 6, 9, 0, 0, 0, 0, 0, 0, 9, 0, 9, 0, 9, 0, 0, 0, 0, 0, 9, 0, 10, 10, 10, 11, 11, 11, 0, 0, 0, 11, 0, 0, 0, 0, 11, 9, 0, 0, 0, 0, 0, 9, 0, 0, 0, 0, 0, 9, 0, 0, 0, 0, 0, 9, 10, 0, 0, 0, 0, 0, 0, 0, 0, 0, 0, 0, 0, 0, 0, 0, 0, 0, 0, 0, 0, 0, 0, 0, 0, 0, 0, 0, 0, 1, 1, 1, 1, 1, 1, 0, 0, 0, 0, 0, 0, 0, 1, 0, 0, 0, 0, 1, 1, 0, 1, 0, 0, 0, 1, 1, 1, 1, 1, 1, 1, 1, 0, 1, 1, 1, 1, 0, 0, 2, 2, 0, 0, 0, 0, 0, 0, 0, 0, 0, 0, 0, 0, 0, 0, 0, 0, 4, 4, 4, 4, 1, 0, 0, 0, 0, 0, 0, 1, 0, 1, 0, 1, 0, 0, 0, 0, 0, 1, 0, 2, 2, 2, 5, 2, 0, 0, 0, 0, 0, 0, 2, 0, 2, 0, 2, 0, 0, 0, 0, 0, 2, 0, 3, 3, 3, 5, 2, 0, 2, 0, 0, 0, 0, 0, 0, 2, 0, 2, 0, 0, 0, 0, 0, 0, 0, 0, 14, 0, 14, 14, 14, 16, 0, 0, 1, 1, 1, 1, 17, 17, 17, 0, 0, 0, 0, 17, 0, 0, 0, 0, 0, 0, 0, 0, 0, 0, 0, 0, 0, 0, 0, 0, 0, 0, 0, 0, 0, 0, 0, 0, 0, 0, 0, 0, 0, 1, 0, 1, 0, 0, 0, 0, 0, 0, 0, 0, 1, 0, 1, 0, 2, 2, 2, 2, 2, 0, 2, 2, 0, 2, 2, 20, 20, 21, 21, 102, 102, 3, 3, 3, 1, 1, 3, 1, 1, 1, 22, 4, 4, 4, 1, 1, 0, 0, 0, 0, 0, 4, 0, 0, 4, 1, 1, 23, 23, 0, 0, 23, 0, 0, 1, 4, 0, 0, 0, 0, 0, 0, 0, 0, 4, 0, 4, 3, 0, 23, 0, 0, 23, 23, 23, 23, 104, 104, 0, 0, 104, 0, 1, 104, 0, 0, 104, 0, 1, 104, 0, 0, 1, 1, 0, 1, 1, 0, 1, 1, 0, 1, 1, 1, 2, 1, 1, 106, 106, 0, 106, 106, 0, 1, 0, 0, 0, 0, 1, 1, 1, 1, 0, 2, 0, 1, 0, 0, 0, 0, 1, 1, 0, 1, 0, 0, 0, 0, 0, 0, 0, 0, 0, 0, 0, 0, 0, 0, 0, 0, 0, 0, 0, 0, 0, 1, 0, 1, 0, 0, 0, 0, 0, 0, 0, 0, 0, 1, 1, 1, 1, 1, 1, 0, 0, 0, 0, 0, 0, 0, 1, 0, 0, 0, 0, 1, 1, 0, 1, 0, 5, 5, 0, 1, 1, 1, 1, 1, 1, 1, 0, 1, 1, 1, 1, 0, 0, 0, 5, 0, 3, 4, 5, 5, 1, 5, 5, 5, 6, 0, 7, 7, 1, 1, 1, 1, 1, 2, 3, 0, 3, 8, 8, 8, 8, 6, 9, 0, 0, 0, 0, 0, 0, 9, 0, 9, 0, 9, 0, 0, 0, 0, 0, 9, 0, 10, 10, 10, 11, 11, 11, 0, 1, 0, 11, 0, 1, 0, 2, 0, 11, 0, 1, 0, 0, 0, 0, 0, 0, 0, 0, 0, 0, 0, 0, 0, 0, 0, 0, 0, 0, 0, 0, 0, 0, 0, 0, 0, 0, 0, 1, 0, 1, 0, 0, 0, 0, 0, 0, 0, 0, 1, 0, 1, 0, 2, 2, 2, 2, 2, 0, 2, 2, 0, 2, 2, 14, 14, 15, 15, 121, 3, 3, 3, 1, 1, 3, 1, 1, 1, 16, 4, 4, 4, 1, 1, 0, 0, 0, 0, 0, 4, 0, 0, 4, 1, 1, 17, 17, 0, 0, 17, 0, 0, 1, 4, 0, 0, 0, 0, 0, 0, 0, 0, 4, 0, 4, 3, 0, 17, 0, 1, 17, 17, 17, 17, 1, 18, 0, 18, 18, 18, 19, 18, 18, 123, 123, 0, 123, 123, 0, 1, 0, 0, 0, 0, 1, 1, 1, 1, 0, 2, 0, 1, 0, 0, 0, 0, 1, 1, 0, 1, 0, 0, 0, 0, 0, 0, 0, 0, 0, 0, 0, 0, 0, 0, 0, 0, 0, 0, 0, 0, 0, 1, 0, 1, 0, 0, 0, 0, 0, 0, 0, 0, 0, 1, 1, 1, 1, 1, 1, 0, 0, 0, 0, 0, 0, 0, 1, 0, 0, 0, 0, 1, 1, 0, 1, 0, 5, 5, 0, 1, 1, 1, 1, 1, 1, 1, 0, 1, 1, 1, 1, 0, 0, 0, 5, 0, 3, 4, 5, 5, 1, 5, 5, 5, 6, 0, 7, 7, 1, 1, 1, 1, 1, 2, 3, 0, 3, 8, 8, 8, 8, 6, 9, 0, 0, 0, 0, 0, 0, 9, 0, 9, 0, 9, 0, 0, 0, 0, 0, 9, 0, 10, 10, 10, 11, 11, 11, 0, 1, 0, 11, 0, 1, 0, 0, 0, 11, 0, 1, 0, 0, 0, 0, 0, 0, 0, 0, 0, 0, 0, 0, 0, 0, 0, 0, 0, 0, 0, 0, 0, 0, 0, 0, 0, 0, 0, 1, 0, 1, 0, 0, 0, 0, 0, 0, 0, 0, 1, 0, 1, 0, 2, 2, 2, 2, 2, 0, 2, 2, 0, 2, 2, 14, 14, 15, 15, 138, 3, 3, 3, 1, 1, 3, 1, 1, 1, 16, 4, 4, 4, 1, 1, 0, 0, 0, 0, 0, 4, 0, 0, 4, 1, 1, 17, 17, 0, 0, 17, 0, 0, 1, 4, 0, 0, 0, 0, 0, 0, 0, 0, 4, 0, 4, 3, 0, 17, 0, 1, 17, 17, 17, 17, 1, 35, 0, 35, 35, 35, 36, 35, 35, 140, 140, 0, 140, 140, 0, 1, 0, 0, 0, 0, 1, 1, 1, 1, 0, 2, 0, 1, 0, 0, 0, 0, 1, 1, 0, 1, 0, 0, 0, 0, 0, 0, 0, 0, 0, 0, 0, 0, 0, 0, 0, 0, 0, 0, 0, 0, 0, 1, 0, 1, 0, 0, 0, 0, 0, 0, 0, 0, 0, 1, 1, 1, 1, 1, 1, 0, 0, 0, 0, 0, 0, 0, 1, 0, 0, 0, 0, 1, 1, 0, 1, 0, 5, 5, 0, 1, 1, 1, 1, 1, 1, 1, 0, 1, 1, 1, 1, 0, 0, 0, 5, 0, 3, 4, 5, 5, 1, 5, 5, 5, 6, 0, 7, 7, 1, 1, 1, 1, 1, 2, 3, 0, 3, 8, 8, 8, 8, 6, 9, 0, 0, 0, 0, 0, 0, 9, 0, 9, 0, 9, 0, 0, 0, 0, 0, 9, 0, 10, 10, 10, 11, 11, 11, 0, 1, 0, 11, 0, 1, 0, 0, 0, 11, 0, 1, 0, 0, 0, 0, 0, 0, 0, 0, 0, 0, 0, 0, 0, 0, 0, 0, 0, 0, 0, 0, 0, 0, 0, 0, 0, 0, 0, 1, 0, 1, 0, 0, 0, 0, 0, 0, 0, 0, 1, 0, 1, 0, 2, 2, 2, 2, 2, 0, 2, 2, 0, 2, 2, 14, 14, 15, 15, 155, 3, 3, 3, 1, 1, 3, 1, 1, 1, 16, 4, 4, 4, 1, 1, 0, 0, 0, 0, 0, 4, 0, 0, 4, 1, 1, 17, 17, 0, 0, 17, 0, 0, 1, 4, 0, 0, 0, 0, 0, 0, 0, 0, 4, 0, 4, 3, 0, 17, 0, 1, 17, 17, 17, 17, 1, 52, 0, 52, 52, 52, 53, 52, 52, 1]
section
variable (w : World) (f₁ f₂ f₃ : Bool) (h₀ : Heap) (g : Array GenState) (d : Drawn) (os : OsState) (F : FrD) (x : Nat) (r : List Nat) (yL IT : Nat) (b t tb : Nat) (p₁ p₂ p₃ p₄ : Addr × Obj) (sk : Sk)
noncomputable def r_AHE : Out Fin :=
  innerRun w f₁ f₂ f₃ h₀ g d os (x :: r) [] (yL + 358) IT (.str (tS []) tb) ⟨b, t, [p₁, p₂, p₃, p₄, (yL + 358, lawFrA { F with fig := (x :: r), kk := 0 })], 358, 0, h_AHE, [], tabs0, []⟩ sk
noncomputable def c_AHE : List Dsc := [
  .eq (tS (69 :: (120 :: (112 :: (101 :: (99 :: (116 :: (101 :: (100 :: (32 :: (115 :: (101 :: (99 :: (116 :: (105 :: (111 :: (110 :: (32 :: (98 :: (117 :: (116 :: (32 :: (102 :: (111 :: (117 :: (110 :: (100 :: (32 :: (40 :: (97 :: (41 :: (42 :: (x :: r))))))))))))))))))))))))))))))))) (tS (69 :: (120 :: (112 :: (101 :: (99 :: (116 :: (101 :: (100 :: (32 :: (115 :: (101 :: (99 :: (116 :: (105 :: (111 :: (110 :: (32 :: (98 :: (117 :: (116 :: (32 :: (102 :: (111 :: (117 :: (110 :: (100 :: (32 :: (40 :: (97 :: (41 :: (42 :: (x :: r))))))))))))))))))))))))))))))))),
  .fmt (27 + (tS (40 :: (97 :: (41 :: (42 :: (x :: r)))))).length) (69 :: (120 :: (112 :: (101 :: (99 :: (116 :: (101 :: (100 :: (32 :: (115 :: (101 :: (99 :: (116 :: (105 :: (111 :: (110 :: (32 :: (98 :: (117 :: (116 :: (32 :: (102 :: (111 :: (117 :: (110 :: (100 :: (32 :: (40 :: (97 :: (41 :: (42 :: (x :: r)))))))))))))))))))))))))))))))),
  .small (((tS (40 :: (97 :: (41 :: (42 :: (x :: r)))))).length : Nat) : Int),
  .addr (b + (x :: r).length + 503) (b + (x :: r).length + 497),
  .add (tS (69 :: (120 :: (112 :: (101 :: (99 :: (116 :: (101 :: (100 :: (32 :: (115 :: (101 :: (99 :: (116 :: (105 :: (111 :: (110 :: (32 :: (98 :: (117 :: (116 :: (32 :: (102 :: (111 :: (117 :: (110 :: (100 :: (32 :: [])))))))))))))))))))))))))))) (tS (40 :: (97 :: (41 :: (42 :: (x :: r)))))),
  .eq (tS (69 :: (120 :: (112 :: (101 :: (99 :: (116 :: (101 :: (100 :: (32 :: (115 :: (101 :: (99 :: (116 :: (105 :: (111 :: (110 :: (32 :: (98 :: (117 :: (116 :: (32 :: (102 :: (111 :: (117 :: (110 :: (100 :: (32 :: (32 :: (42 :: (x :: r))))))))))))))))))))))))))))))) (tS (69 :: (120 :: (112 :: (101 :: (99 :: (116 :: (101 :: (100 :: (32 :: (115 :: (101 :: (99 :: (116 :: (105 :: (111 :: (110 :: (32 :: (98 :: (117 :: (116 :: (32 :: (102 :: (111 :: (117 :: (110 :: (100 :: (32 :: (32 :: (42 :: (x :: r))))))))))))))))))))))))))))))),
  .fmt (27 + (tS (32 :: (42 :: (x :: r)))).length) (69 :: (120 :: (112 :: (101 :: (99 :: (116 :: (101 :: (100 :: (32 :: (115 :: (101 :: (99 :: (116 :: (105 :: (111 :: (110 :: (32 :: (98 :: (117 :: (116 :: (32 :: (102 :: (111 :: (117 :: (110 :: (100 :: (32 :: (32 :: (42 :: (x :: r)))))))))))))))))))))))))))))),
  .small (((tS (32 :: (42 :: (x :: r)))).length : Nat) : Int),
  .addr (b + (x :: r).length + 486) (b + (x :: r).length + 480),
  .add (tS (69 :: (120 :: (112 :: (101 :: (99 :: (116 :: (101 :: (100 :: (32 :: (115 :: (101 :: (99 :: (116 :: (105 :: (111 :: (110 :: (32 :: (98 :: (117 :: (116 :: (32 :: (102 :: (111 :: (117 :: (110 :: (100 :: (32 :: [])))))))))))))))))))))))))))) (tS (32 :: (42 :: (x :: r)))),
  .eq (tS (69 :: (120 :: (112 :: (101 :: (99 :: (116 :: (101 :: (100 :: (32 :: (115 :: (101 :: (99 :: (116 :: (105 :: (111 :: (110 :: (32 :: (98 :: (117 :: (116 :: (32 :: (102 :: (111 :: (117 :: (110 :: (100 :: (32 :: (x :: r))))))))))))))))))))))))))))) (tS (69 :: (120 :: (112 :: (101 :: (99 :: (116 :: (101 :: (100 :: (32 :: (115 :: (101 :: (99 :: (116 :: (105 :: (111 :: (110 :: (32 :: (98 :: (117 :: (116 :: (32 :: (102 :: (111 :: (117 :: (110 :: (100 :: (32 :: (x :: r))))))))))))))))))))))))))))),
  .fmt (27 + (tS (x :: r)).length) (69 :: (120 :: (112 :: (101 :: (99 :: (116 :: (101 :: (100 :: (32 :: (115 :: (101 :: (99 :: (116 :: (105 :: (111 :: (110 :: (32 :: (98 :: (117 :: (116 :: (32 :: (102 :: (111 :: (117 :: (110 :: (100 :: (32 :: (x :: r)))))))))))))))))))))))))))),
  .ne (tS (x :: [])) (tS (42 :: [])),
  .small (((tS (x :: r)).length : Nat) : Int),
  .addr (b + (x :: r).length + 469) (b + (x :: r).length + 463),
  .add (tS (69 :: (120 :: (112 :: (101 :: (99 :: (116 :: (101 :: (100 :: (32 :: (115 :: (101 :: (99 :: (116 :: (105 :: (111 :: (110 :: (32 :: (98 :: (117 :: (116 :: (32 :: (102 :: (111 :: (117 :: (110 :: (100 :: (32 :: [])))))))))))))))))))))))))))) (tS (x :: r)),
  .add (tS (40 :: (97 :: (41 :: (42 :: []))))) (tS (x :: r)),
  .add (tS (32 :: (42 :: []))) (tS (x :: r)),
  .addr (b + (x :: r).length + 444) (b + (x :: r).length + 438),
  .addr (b + (x :: r).length + 422) (b + (x :: r).length + 379),
  .addr (b + (x :: r).length + 419) (b + 373),
  .eq (tS (42 :: (x :: r))) (tS (42 :: (x :: r))),
  .add (tS (42 :: [])) (tS (x :: r)),
  .join (tS (42 :: [])) (tS []) (tS (x :: r)),
  .small (((tS (x :: r)).length : Nat) : Int),
  .addr (b + (x :: r).length + 401) (b + (x :: r).length + 400),
  .eq (tS (digs ((PySem.intText? (tS (x :: r))).getD 0))) (tS (digs F.n)),
  .repr F.n,
  .repr ((PySem.intText? (tS (x :: r))).getD 0),
  .eq (tS (x :: r)) (tS (x :: r)),
  .diff (.str (tS (x :: r)) ((lpT true (x :: r) (List.isEmpty ([] : List Nat)) (t + 38) (t + 30) (t + 36)).1 + 25)) (.str (tS (x :: r)) (F.k 13)),
  .diff (.str (tS (100 :: (105 :: (103 :: (105 :: (116 :: (115 :: []))))))) ((lpT true (x :: r) (List.isEmpty ([] : List Nat)) (t + 38) (t + 30) (t + 36)).1 + 6)) (.str (tS (100 :: (105 :: (103 :: (105 :: (116 :: (115 :: []))))))) ((lpT true (x :: r) (List.isEmpty ([] : List Nat)) (t + 38) (t + 30) (t + 36)).1 + 28)),
  .diff (.ref (b + (x :: r).length + 388)) (.ref (b + (x :: r).length + 392)),
  .diff (.str (tS (42 :: [])) ((lpT true (x :: r) (List.isEmpty ([] : List Nat)) (t + 38) (t + 30) (t + 36)).1 + 22)) (.str (tS (42 :: [])) ((lpT true (x :: r) (List.isEmpty ([] : List Nat)) (t + 38) (t + 30) (t + 36)).1 + 27)),
  .diff (.str (tS (115 :: (101 :: (99 :: (116 :: (105 :: (111 :: (110 :: (45 :: (109 :: (97 :: (114 :: (107 :: (101 :: (114 :: []))))))))))))))) (t + 17)) (.str (tS (115 :: (101 :: (99 :: (116 :: (105 :: (111 :: (110 :: (45 :: (109 :: (97 :: (114 :: (107 :: (101 :: (114 :: []))))))))))))))) ((lpT true (x :: r) (List.isEmpty ([] : List Nat)) (t + 38) (t + 30) (t + 36)).1 + 26)),
  .diff (.ref (b + (x :: r).length + 387)) (.ref (b + (x :: r).length + 391)),
  .str (tS (x :: r)),
  .str (tS (x :: r)),
  .txt (tS (x :: r)),
  .ne (tS (x :: [])) (tS (48 :: [])),
  .code (lp w f₁ f₂ f₃ (b + 358)) (lp w f₁ f₂ f₃ (b + 358)),
  .eq (tS (x :: r)) (tS ((x :: r) ++ [])),
  .le 358 (b + 358),
  .le 358 (b + 375),
  .dig (tS (x :: [])),
  .small (((tS (x :: r)).length : Nat) : Int),
  .size (x :: r),
  .small (((tS (42 :: (x :: r))).length : Nat) : Int),
  .addr (b + 367) (b + 361),
  .add (tS (42 :: [])) (tS (x :: r))]
theorem t_AHE : (r_AHE w f₁ f₂ f₃ h₀ g d os F x r yL IT b t tb p₁ p₂ p₃ p₄ sk).sumE [154, 155, 156, 157] 158 =
    some (.again (innerC (KT w f₁ f₂ f₃) (yL + 358) IT), [some p₁, some p₂, some p₃, some p₄], ((b + (x :: r).length), (lpT true (x :: r) (List.isEmpty ([] : List Nat)) (t + 38) (t + 30) (t + 36)).1, 512, 197, [(147, X.tableObj #[.int 41 0, .int 23 0, .ref (b + (x :: r).length + 398)]), (155, X.tableObj #[.int 45 0, .int 19 0, .ref (b + (x :: r).length + 414)])], [.finished, .finished]), [], (c_AHE w f₁ f₂ f₃ F x r b t), (r_AHE w f₁ f₂ f₃ h₀ g d os F x r yL IT b t tb p₁ p₂ p₃ p₄ sk).rt, some (yL + 358, lawFr (FrD.turnA { F with fig := (x :: r), kk := 0 } (wF w f₁ f₂ f₃).params [] (40 :: (97 :: (41 :: (42 :: (x :: r))))) (.ref (b + 360)) (.ref (b + (x :: r).length + 429)) tb (lpT true (x :: r) (List.isEmpty ([] : List Nat)) (t + 38) (t + 30) (t + 36)).2.1 ((lpT true (x :: r) (List.isEmpty ([] : List Nat)) (t + 38) (t + 30) (t + 36)).1 + 130) (t + 0) ((lpT true (x :: r) (List.isEmpty ([] : List Nat)) (t + 38) (t + 30) (t + 36)).1 + 18) ((lpT true (x :: r) (List.isEmpty ([] : List Nat)) (t + 38) (t + 30) (t + 36)).1 + 19) ((lpT true (x :: r) (List.isEmpty ([] : List Nat)) (t + 38) (t + 30) (t + 36)).1 + 81) ((lpT true (x :: r) (List.isEmpty ([] : List Nat)) (t + 38) (t + 30) (t + 36)).1 + 131)) .none)) := by
  cases f₁ <;> kernel_rfl
end
end Mine

namespace Mine
noncomputable def h_AZE : List Nat := [5, 5, 0, 5, 0, 0, 5, 0, 0, 0, 0, 0, 0, 1, 1, 0, 1, 0, 0, 0, 0, 0, 0, 0, 0, 0, 0, 0, 0, 0, 0, 0, 0, 0, 0, 0, 0, 0, 1, 0, 1, 0, 0, 0, 0, 0, 0, 0, 0, 0, 1, 1, 1, 1, 1, 1, 0, 0, 0, 0, 0, 0, 0, 1, 0, 0, 0, 0, 1, 1, 0, 1, 0, 5, 5, 0, 1, 1, 1, 1, 1, 1, 1, 0, 1, 1, 1, 1, 0, 0, 0, 5, 0, 3, 4, 5, 5, 1, 5, 5, 5, 6, 0, 7, 7, 1, 1, 1, 1, 1, 2, 3, 0, 3, 8, 8, 8, 8, 6, 9, 0, 0, 0, 0, 0, 0, 9, 0, 9, 0, 9, 0, 0, 0, 0, 0, 9, 0, 10, 10, 10, 11, 11, 11, 0, 0, 0, 11, 0, 0, 0, 0, 11, 9, 0, 0, 0, 0, 0, 9, 0, 0, 0, 0, 0, 9, 0, 0, 0, 0, 0, 9, 10, 0, 0, 0, 0, 0, 0, 0, 0, 0, 0, 0, 0, 0, 0, 0, 0, 0, 0, 0, 0, 0, 0, 0, 0, 0, 0, 0, 0, 1, 1, 1, 1, 1, 1, 0, 0, 0, 0, 0, 0, 0, 1, 0, 0, 0, 0, 1, 1, 0, 1, 0, 0, 0, 1, 1, 1, 1, 1, 1, 1, 1, 0, 1, 1, 1, 1, 0, 0, 2, 2, 0, 0, 0, 0, 0, 0, 0, 0, 0, 0, 0, 0, 0, 0, 0, 0, 4, 4, 4, 4, 1, 0, 0, 0, 0, 0, 0, 1, 0, 1, 0, 1, 0, 0, 0, 0, 0, 1, 0, 2, 2, 2, 5, 2, 0, 0, 0, 0, 0, 0, 2, 0, 2, 0, 2, 0, 0, 0, 0, 0, 2, 0, 3, 3, 3, 5, 2, 0, 2, 0, 0, 0, 0, 0, 0, 2, 0, 2, 0, 0, 0, 0, 0, 0, 0, 0, 14, 0, 14, 14, 14, 16, 0, 0, 1, 1, 1, 1, 17, 17, 17, 0, 0, 0, 17, 0, 0, 0, 0, 17, 17, 1, 16, 17, 0, 0, 0, 0, 17, 0, 0, 0, 0, 17, 0, 0, 1, 0, 17, 15, 0, 0, 0, 0, 0, 0, 15, 0, 15, 0, 15, 0, 0, 0, 15, 0, 16, 16, 16, 17, 15, 0, 0, 0, 0, 0, 15, 0, 0, 0, 0, 0, 15, 0, 0, 0, 0, 0, 15, 16, 0, 17, 0, 0, 0, 0, 0, 0, 0, 0, 0, 0, 0, 0, 0, 0, 0, 0, 0, 0, 0, 0, 0, 0, 0, 0, 0, 0, 0, 1, 1, 1, 1, 1, 1, 0, 0, 0, 0, 0, 0, 0, 1, 0, 0, 0, 0, 1, 1, 0, 1, 0, 0, 0, 1, 1, 1, 1, 1, 1, 1, 1, 0, 1, 1, 1, 1, 0, 0, 2, 2, 0, 0, 0, 0, 0, 0, 0, 0, 0, 0, 0, 0, 0, 0, 0, 0, 4, 4, 4, 4, 1, 0, 0, 0, 0, 0, 0, 1, 0, 1, 0, 1, 0, 0, 0, 0, 0, 1, 0, 2, 2, 2, 5, 2, 0, 0, 0, 0, 0, 0, 2, 0, 2, 0, 2, 0, 0, 0, 0, 0, 2, 0, 3, 3, 3, 5, 2, 0, 2, 0, 0, 0, 0, 0, 0, 2, 0, 2, 0, 0, 0, 0, 0, 0, 0, 0, 20, 0, 20, 20, 20, 22, 22, 1, 1, 1, 0, 1, 1, 1, 0, 1, 1, 1, 2, 1, 1, 1, 0, 1, 1, 1, 2, 1, 1, 1, 0, 1, 1, 1, 2, 1, 1, 1, 31, 31, 31, 31, 31, 24, 0, 0, 0, 0, 0, 24, 0, 0, 0, 0, 0, 0, 24, 0, 1, 0, 3, 3, 0, 3, 3, 3, 27, 3, 3, 1, 1, 1, 15, 0, 0, 0, 0, 0, 0, 15, 0, 0, 0, 0, 0, 15, 15, 0, 16, 0, 0, 1, 0, 0, 1, 15, 0, 0, 0, 0, 0, 0, 15, 0, 0, 15, 0, 0, 3, 3, 3, 3, 4, 0, 4, 4, 4, 28, 4, 4, 2, 2, 2, 10, 0, 0, 0, 0, 0, 0, 10, 0, 0, 0, 0, 0, 10, 10, 0, 11, 0, 0, 2, 0, 0, 1, 10, 0, 0, 0, 0, 0, 0, 10, 0, 0, 10, 0, 0, 4, 4, 4, 4, 5, 0, 5, 5, 5, 29, 5, 5, 1, 5, 5, 5, 39, 9, 1, 9, 0, 9, 1, 9, 1, 1, 9, 1, 7, 3, 7, 0, 7, 1, 3, 7, 3, 0, 0, 0, 0, 1, 9, 1, 6, 2, 6, 0, 6, 1, 2, 6, 2, 0, 0, 0, 0, 0, 9, 1, 9, 1, 0, 0, 41, 34, 0, 0, 0, 0, 0, 0, 0, 0, 0, 0, 0, 34, 0, 34, 0, 0, 0, 34, 34, 0, 35, 0, 0, 1, 0, 0, 41, 0, 0, 1, 0, 0, 41, 34, 0, 0, 0, 0, 0, 0, 0, 0, 0, 0, 0, 34, 0, 34, 0, 0, 0, 0, 0, 0, 0, 0, 0, 0, 0, 0, 1, 1, 0, 3, 1, 35, 0, 0, 0, 0, 0, 35, 0, 0, 0, 0, 0, 0, 35, 0, 1, 0, 0, 1001, 1001, 1001, 1001, 0, 0, 1, 1, 0, 1, 1, 1, 1, 0, 1, 1, 0, 2, 2, 2, 0, 2, 2, 2, 2, 1, 1, 1, 1, 1, 1, 2, 0, 2, 2, 0, 0, 0, 7, 7, 0, 7, 7, 7, 42, 7, 7, 3, 3, 3, 30, 0, 0, 0, 0, 0, 0, 30, 0, 0, 0, 0, 0, 0, 0, 0, 0, 0, 0, 0, 0, 0, 0, 1, 1, 0, 0, 1, 31, 0, 0, 0, 0, 0, 31, 0, 0, 0, 0, 0, 0, 0, 31, 0, 0, 0, 0, 0, 0, 31, 0, 31, 4, 31, 0, 0, 0, 0, 0, 0, 31, 0, 0, 0, 0, 0, 0, 0, 0, 0, 0, 0, 0, 0, 0, 0, 1, 1, 0, 0, 1, 3, 3, 3, 4, 0, 4, 4, 0, 0, 0, 9, 0, 9, 9, 9, 44, 9, 9, 5, 5, 5, 26, 0, 0, 0, 0, 0, 0, 26, 0, 0, 0, 0, 0, 0, 0, 0, 0, 0, 0, 0, 0, 0, 0, 1, 1, 0, 0, 1, 27, 0, 0, 0, 0, 0, 27, 0, 0, 0, 0, 0, 0, 0, 27, 0, 0, 0, 0, 0, 0, 27, 0, 27, 6, 27, 0, 0, 0, 0, 0, 0, 27, 0, 0, 0, 0, 0, 0, 0, 0, 0, 0, 0, 0, 0, 0, 0, 1, 1, 0, 0, 1, 5, 5, 5, 6, 0, 6, 6, 0, 0, 0, 11, 0, 11, 11, 11, 46, 11, 11, 1, 1, 9, 38, 32, 57, 0, 0, 0, 0, 57, 57, 0, 0, 57, 50, 0, 0, 0, 0, 0, 0, 0, 0, 0, 0, 0, 50, 0, 50, 0, 0, 0, 50, 50, 0, 51, 0, 0, 57, 50, 0, 0, 0, 0, 0, 0, 0, 0, 0, 0, 0, 50, 0, 50, 0, 0, 0, 0, 0, 0, 0, 0, 0, 0, 0, 0, 1, 1, 0, 3, 0, 0, 1, 51, 0, 0, 0, 0, 0, 51, 0, 0, 0, 0, 0, 0, 51, 0, 1, 0, 0, 1002, 1002, 1002, 1002, 0, 0, 1, 1, 7, 57, 0, 0, 0, 0, 0, 0, 0, 0, 0, 0, 0, 57, 0, 57, 0, 0, 0, 0, 0, 57, 57, 0, 58, 0, 1, 1, 0, 1, 1, 49, 49, 49, 1, 2, 0, 2, 2, 1, 0, 1, 7, 7, 0, 7, 7, 7, 58, 7, 7, 3, 3, 3, 46, 0, 0, 0, 0, 0, 0, 46, 0, 0, 0, 0, 0, 0, 0, 0, 0, 0, 0, 0, 0, 0, 0, 0, 0, 1, 1, 0, 0, 0, 0, 1, 47, 0, 0, 0, 0, 0, 0, 47, 0, 0, 0, 0, 0, 47, 47, 0, 48, 0, 0, 1, 1, 0, 1, 1, 1, 1, 1, 47, 47, 1, 1, 1, 1, 52, 1, 52, 0, 52, 0, 1, 52, 1, 4, 4, 4, 4, 4, 4, 4, 5, 0, 5, 5, 1, 0, 1, 10, 0, 10, 10, 10, 61, 10, 10, 6, 6, 6, 43, 0, 0, 0, 0, 0, 0, 43, 0, 0, 0, 0, 0, 0, 0, 0, 0, 0, 0, 0, 0, 0, 0, 0, 0, 1, 1, 0, 0, 0, 0, 1, 44, 0, 0, 0, 0, 0, 0, 44, 0, 0, 0, 0, 0, 44, 44, 0, 45, 0, 0, 1, 1, 0, 1, 1, 1, 1, 1, 44, 44, 1, 1, 1, 1, 3, 1, 3, 0, 3, 0, 1, 3, 1, 7, 7, 7, 7, 7, 7, 7, 8, 0, 8, 8, 1, 0, 1, 13, 0, 13, 13, 13, 64, 13, 13, 1, 1, 5, 5, 0, 5, 1, 0, 3, 3, 0, 3, 3, 3, 8, 3, 3, 1, 80, 80, 3, 80, 80, 0, 0, 5, 1, 5, 0, 5, 1, 5, 1, 0, 5, 1, 5, 1, 0, 0, 81, 74, 0, 0, 0, 0, 0, 0, 0, 0, 0, 0, 0, 74, 0, 74, 0, 0, 0, 0, 0, 74, 74, 0, 75, 0, 0, 66, 0, 66, 66, 0, 0, 81, 0, 0, 5, 0, 5, 5, 0, 0, 81, 0, 0, 81, 0, 0, 0, 0, 0, 0, 1, 1, 1, 1, 0, 2, 0, 1, 0, 0, 0, 0, 1, 1, 0, 1, 0, 0, 0, 0, 0, 0, 0, 0, 0, 0, 0, 0, 0, 0, 0, 0, 0, 0, 0, 0, 0, 1, 0, 1, 0, 0, 0, 0, 0, 0, 0, 0, 0, 1, 1, 1, 1, 1, 1, 0, 0, 0, 0, 0, 0, 0, 1, 0, 0, 0, 0, 1, 1, 0, 1, 0, 5, 5, 0, 1, 1, 1, 1, 1, 1, 1, 0, 1, 1, 1, 1, 0, 0, 0, 5, 0, 3, 4, 5, 5, 1, 5, 5, 5, 6, 0, 7, 7, 1, 1, 1, 1, 1, 2, 3, 0, 3, 8, 8, 8, 8, 6, 9, 0, 0, 0, 0, 0, 0, 9, 0, 9, 0, 9, 0, 0, 0, 0, 0, 9, 0, 10, 10, 10, 11, 11, 11, 0, 0, 0, 11, 0, 0, 0, 0, 11, 9, 0, 0, 0, 0, 0, 9, 0, 0, 0, 0, 0, 9, 0, 0, 0, 0, 0, 9, 10, 0, 0, 0, 0, 0, 0, 0, 0, 0, 0, 0, 0, 0, 0, 0, 0, 0, 0, 0, 0, 0, 0, 0, 0, 0, 0, 0, 0, 1, 1, 1, 1, 1, 1, 0, 0, 0, 0, 0, 0, 0, 1, 0, 0, 0, 0, 1, 1, 0, 1, 0, 0, 0, 1, 1, 1, 1, 1, 1, 1, 1, 0, 1, 1, 1, 1, 0, 0, 2, 2, 0, 0, 0, 0, 0, 0, 0, 0, 0, 0, 0, 0, 0, 0, 0, 0, 4, 4, 4, 4, 1, 0, 0, 0, 0, 0, 0, 1, 0, 1, 0, 1, 0, 0, 0, 0, 0, 1, 0, 2, 2, 2, 5, 2, 0, 0, 0, 0, 0, 0, 2, 0, 2, 0, 2, 0, 0, 0, 0, 0, 2, 0, 3, 3, 3, 5, 2, 0, 2, 0, 0, 0, 0, 0, 0, 2, 0, 2, 0, 0, 0, 0, 0, 0, 0, 0, 14, 0, 14, 14, 14, 16, 0, 0, 1, 1, 1, 1, 17, 17, 17, 0, 0, 0, 0, 17, 0, 0, 0, 0, 0, 0, 0, 0, 0, 0, 0, 0, 0, 0, 0, 0, 0, 0, 0, 0, 0, 0, 0, 0, 0, 0, 0, 0, 0, 1, 0, 1, 0, 0, 0, 0, 0, 0, 0, 0, 1, 0, 1, 0, 2, 2, 2, 2, 2, 0, 2, 2, 0, 2, 2, 20, 20, 21, 21, 102, 102, 3, 3, 3, 1, 1, 3, 1, 1, 1, 22, 4, 4, 4, 1, 1, 0, 0, 0, 0, 0, 4, 0, 0, 4, 1, 1, 23, 23, 0, 0, 23, 0, 0, 1, 4, 0, 0, 0, 0, 0, 0, 0, 0, 4, 0, 4, 3, 0, 23, 0, 0, 23, 23, 23, 23, 104, 104, 0, 0, 104, 0, 0, 104, 0, 0, 104, 0, 0, 104, 0, 0, 1, 1, 0, 1, 1, 0, 1, 1, 0, 1, 1, 1, 2, 1, 1, 106, 106, 0, 106, 106, 0, 0, 0, 0, 0, 0, 1, 1, 1, 1, 0, 2, 0, 1, 0, 0, 0, 0, 1, 1, 0, 1, 0, 0, 0, 0, 0, 0, 0, 0, 0, 0, 0, 0, 0, 0, 0, 0, 0, 0, 0, 0, 0, 1, 0, 1, 0, 0, 0, 0, 0, 0, 0, 0, 0, 1, 1, 1, 1, 1, 1, 0, 0, 0, 0, 0, 0, 0, 1, 0, 0, 0, 0, 1, 1, 0, 1, 0, 5, 5, 0, 1, 1, 1, 1, 1, 1, 1, 0, 1, 1, 1, 1, 0, 0, 0, 5, 0, 3, 4, 5, 5, 1, 5, 5, 5, 6, 0, 7, 7, 1, 1, 1, 1, 1, 2, 3, 0, 3, 8, 8, 8, 8, 6, 9, 0, 0, 0, 0, 0, 0, 9, 0, 9, 0, 9, 0, 0, 0, 0, 0, 9, 0, 10, 10, 10, 11, 11, 11, 0, 0, 0, 11, 0, 0, 0, 0, 0, 11, 0, 0, 0, 0, 0, 0, 0, 0, 0, 0, 0, 0, 0, 0, 0, 0, 0, 0, 0, 0, 0, 0, 0, 0, 0, 0, 0, 0, 0, 1, 0, 1, 0, 0, 0, 0, 0, 0, 0, 0, 1, 0, 1, 0, 2, 2, 2, 2, 2, 0, 2, 2, 0, 2, 2, 14, 14, 15, 15, 121, 3, 3, 3, 1, 1, 3, 1, 1, 1, 16, 4, 4, 4, 1, 1, 0, 0, 0, 0, 0, 4, 0, 0, 4, 1, 1, 17, 17, 0, 0, 17, 0, 0, 1, 4, 0, 0, 0, 0, 0, 0, 0, 0, 4, 0, 4, 3, 0, 17, 0, 0, 17, 17, 17, 17, 1, 18, 0, 18, 18, 18, 19, 18, 18, 123, 123, 0, 123, 123, 0, 0, 0, 0, 0, 0, 1, 1, 1, 1, 0, 2, 0, 1, 0, 0, 0, 0, 1, 1, 0, 1, 0, 0, 0, 0, 0, 0, 0, 0, 0, 0, 0, 0, 0, 0, 0, 0, 0, 0, 0, 0, 0, 1, 0, 1, 0, 0, 0, 0, 0, 0, 0, 0, 0, 1, 1, 1, 1, 1, 1, 0, 0, 0, 0, 0, 0, 0, 1, 0, 0, 0, 0, 1, 1, 0, 1, 0, 5, 5, 0, 1, 1, 1, 1, 1, 1, 1, 0, 1, 1, 1, 1, 0, 0, 0, 5, 0, 3, 4, 5, 5, 1, 5, 5, 5, 6, 0, 7, 7, 1, 1, 1, 1, 1, 2, 3, 0, 3, 8, 8, 8, 8, 6, 9, 0, 0, 0, 0, 0, 0, 9, 0, 9, 0, 9, 0, 0, 0, 0, 0, 9, 0, 10, 10, 10, 11, 11, 11, 0, 0, 0, 11, 0, 0, 0, 0, 0, 11, 0, 0, 0, 0, 0, 0, 0, 0, 0, 0, 0, 0, 0, 0, 0, 0, 0, 0, 0, 0, 0, 0, 0, 0, 0, 0, 0, 0, 0, 1, 0, 1, 0, 0, 0, 0, 0, 0, 0, 0, 1, 0, 1, 0, 2, 2, 2, 2, 2, 0, 2, 2, 0, 2, 2, 14, 14, 15, 15, 138, 3, 3, 3, 1, 1, 3, 1, 1, 1, 16, 4, 4, 4, 1, 1, 0, 0, 0, 0, 0, 4, 0, 0, 4, 1, 1, 17, 17, 0, 0, 17, 0, 0, 1, 4, 0, 0, 0, 0, 0, 0, 0, 0, 4, 0, 4, 3, 0, 17, 0, 0, 17, 17, 17, 17, 1, 35, 0, 35, 35, 35, 36, 35, 35, 140, 140, 0, 140, 140, 0, 0, 0, 0, 0, 0, 1, 1, 1, 1, 0, 2, 0, 1, 0, 0, 0, 0, 1, 1, 0, 1, 0, 0, 0, 0, 0, 0, 0, 0, 0, 0, 0, 0, 0, 0, 0, 0, 0, 0, 0, 0, 0, 1, 0, 1, 0, 0, 0, 0, 0, 0, 0, 0, 0, 1, 1, 1, 1, 1, 1, 0, 0, 0, 0, 0, 0, 0, 1, 0, 0, 0, 0, 1, 1, 0, 1, 0, 5, 5, 0, 1, 1, 1, 1, 1, 1, 1, 0, 1, 1, 1, 1, 0, 0, 0, 5, 0, 3, 4, 5, 5, 1, 5, 5, 5, 6, 0, 7, 7, 1, 1, 1, 1, 1, 2, 3, 0, 3, 8, 8, 8, 8, 6, 9, 0, 0, 0, 0, 0, 0, 9, 0, 9, 0, 9, 0, 0, 0, 0, 0, 9, 0, 10, 10, 10, 11, 11, 11, 0, 0, 0, 11, 0, 0, 0, 0, 0, 11, 0, 0, 0, 0, 0, 0, 0, 0, 0, 0, 0, 0, 0, 0, 0, 0, 0, 0, 0, 0, 0, 0, 0, 0, 0, 0, 0, 0, 0, 1, 0, 1, 0, 0, 0, 0, 0, 0, 0, 0, 1, 0, 1, 0, 2, 2, 2, 2, 2, 0, 2, 2, 0, 2, 2, 14, 14, 15, 15, 155, 3, 3, 3, 1, 1, 3, 1, 1, 1, 16, 4, 4, 4, 1, 1, 0, 0, 0, 0, 0, 4, 0, 0, 4, 1, 1, 17, 17, 0, 0, 17, 0, 0, 1, 4, 0, 0, 0, 0, 0, 0, 0, 0, 4, 0, 4, 3, 0, 17, 0, 0, 17, 17, 17, 17, 1, 52, 0, 52, 52, 52, 53, 52, 52, 1]
section
variable (w : World) (f₁ f₂ f₃ : Bool) (h₀ : Heap) (g : Array GenState) (d : Drawn) (os : OsState) (F : FrD) (yL IT : Nat) (b t tb : Nat) (p₁ p₂ p₃ p₄ : Addr × Obj) (sk : Sk)
noncomputable def r_AZE : Out Fin :=
  innerRun w f₁ f₂ f₃ h₀ g d os [48] [] (yL + 358) IT (.str (tS []) tb) ⟨b, t, [p₁, p₂, p₃, p₄, (yL + 358, lawFrA { F with fig := [48], kk := 0, n := 0 })], 358, 0, h_AZE, [], tabs0, []⟩ sk
noncomputable def c_AZE : List Dsc := [
  .addr (b + (48 :: []).length + 503) (b + (48 :: []).length + 497),
  .addr (b + (48 :: []).length + 486) (b + (48 :: []).length + 480),
  .addr (b + (48 :: []).length + 469) (b + (48 :: []).length + 463),
  .addr (b + (48 :: []).length + 444) (b + (48 :: []).length + 438),
  .addr (b + (48 :: []).length + 422) (b + (48 :: []).length + 379),
  .addr (b + (48 :: []).length + 419) (b + 373),
  .join (tS (42 :: [])) (tS []) (tS (48 :: [])),
  .addr (b + (48 :: []).length + 401) (b + (48 :: []).length + 400),
  .repr 0,
  .repr ((PySem.intText? (tS (48 :: []))).getD 0),
  .diff (.str (tS (48 :: [])) ((lpT true (48 :: []) (List.isEmpty ([] : List Nat)) (t + 38) (t + 30) (t + 36)).1 + 26)) (.str (tS (48 :: [])) (F.k 13)),
  .diff (.str (tS (100 :: (105 :: (103 :: (105 :: (116 :: (115 :: []))))))) ((lpT true (48 :: []) (List.isEmpty ([] : List Nat)) (t + 38) (t + 30) (t + 36)).1 + 7)) (.str (tS (100 :: (105 :: (103 :: (105 :: (116 :: (115 :: []))))))) ((lpT true (48 :: []) (List.isEmpty ([] : List Nat)) (t + 38) (t + 30) (t + 36)).1 + 29)),
  .diff (.ref (b + (48 :: []).length + 388)) (.ref (b + (48 :: []).length + 392)),
  .diff (.str (tS (42 :: [])) ((lpT true (48 :: []) (List.isEmpty ([] : List Nat)) (t + 38) (t + 30) (t + 36)).1 + 23)) (.str (tS (42 :: [])) ((lpT true (48 :: []) (List.isEmpty ([] : List Nat)) (t + 38) (t + 30) (t + 36)).1 + 28)),
  .diff (.str (tS (115 :: (101 :: (99 :: (116 :: (105 :: (111 :: (110 :: (45 :: (109 :: (97 :: (114 :: (107 :: (101 :: (114 :: []))))))))))))))) (t + 17)) (.str (tS (115 :: (101 :: (99 :: (116 :: (105 :: (111 :: (110 :: (45 :: (109 :: (97 :: (114 :: (107 :: (101 :: (114 :: []))))))))))))))) ((lpT true (48 :: []) (List.isEmpty ([] : List Nat)) (t + 38) (t + 30) (t + 36)).1 + 27)),
  .diff (.ref (b + (48 :: []).length + 387)) (.ref (b + (48 :: []).length + 391)),
  .txt (tS (48 :: [])),
  .code (lp w f₁ f₂ f₃ (b + 358)) (lp w f₁ f₂ f₃ (b + 358)),
  .eq (tS (48 :: [])) (tS ((48 :: []) ++ [])),
  .le 358 (b + 358),
  .le 358 (b + 375),
  .addr (b + 367) (b + 361)]
theorem t_AZE : (r_AZE w f₁ f₂ f₃ h₀ g d os F yL IT b t tb p₁ p₂ p₃ p₄ sk).sumE [154, 155, 156, 157] 158 =
    some (.again (innerC (KT w f₁ f₂ f₃) (yL + 358) IT), [some p₁, some p₂, some p₃, some p₄], ((b + (48 :: []).length), (lpT true (48 :: []) (List.isEmpty ([] : List Nat)) (t + 38) (t + 30) (t + 36)).1, 512, 198, [(147, X.tableObj #[.int 41 0, .int 23 0, .ref (b + (48 :: []).length + 398)]), (155, X.tableObj #[.int 45 0, .int 19 0, .ref (b + (48 :: []).length + 414)])], [.finished, .finished]), [], (c_AZE w f₁ f₂ f₃ F b t), (r_AZE w f₁ f₂ f₃ h₀ g d os F yL IT b t tb p₁ p₂ p₃ p₄ sk).rt, some (yL + 358, lawFr (FrD.turnA { F with fig := [48], kk := 0, n := 0 } (wF w f₁ f₂ f₃).params [] (40 :: (97 :: (41 :: (42 :: (48 :: []))))) (.ref (b + 360)) (.ref (b + (48 :: []).length + 429)) tb (lpT true (48 :: []) (List.isEmpty ([] : List Nat)) (t + 38) (t + 30) (t + 36)).2.1 ((lpT true (48 :: []) (List.isEmpty ([] : List Nat)) (t + 38) (t + 30) (t + 36)).1 + 131) (t + 0) ((lpT true (48 :: []) (List.isEmpty ([] : List Nat)) (t + 38) (t + 30) (t + 36)).1 + 19) ((lpT true (48 :: []) (List.isEmpty ([] : List Nat)) (t + 38) (t + 30) (t + 36)).1 + 20) ((lpT true (48 :: []) (List.isEmpty ([] : List Nat)) (t + 38) (t + 30) (t + 36)).1 + 82) ((lpT true (48 :: []) (List.isEmpty ([] : List Nat)) (t + 38) (t + 30) (t + 36)).1 + 132)) .none)) := by
  cases f₁ <;> kernel_rfl
end
end Mine

namespace Mine
noncomputable def sizeI (x : Int) : Int := Int.fmod (Int.ofNat x.natAbs) 1000000000000000000000000000000
noncomputable def liObj (a : Nat) (i : Int) : Obj := { cls := .type "list_iterator", data := .fields #[.ref a, .int i 0] }
noncomputable def lsObj (vs : Array Value) : Obj := { cls := .type "list", data := .seq vs }
noncomputable def rests (k₀ k₁ k₂ k₃ k₄ k₅ : Nat) : Array Value := #[.str (tS []) k₀, .str (tS [42, 61, 97]) k₁, .str (tS [61, 57]) k₂, .str (tS [97, 57]) k₃, .str (tS [32, 57]) k₄, .str (tS [45, 49]) k₅]
section
variable (w : World) (f₁ f₂ f₃ : Bool) (h₀ : Heap) (g : Array GenState) (d : Drawn) (os : OsState) (F : FrD) (yL OIT q₁ q₂ : Nat) (bk : Value) (b t tb : Nat) (xx : Int) (p₃ p₄ : Addr × Obj) (sk : Sk)
noncomputable def h_HA0p : List Nat := [3, 3, 0, 0, 3, 0, 0, 2, 0, 0, 0, 3, 3, 3, 0, 1, 3, 3, 3, 0, 0, 0, 0, 3, 0, 0, 0, 0, 1, 0, 0, 0, 3, 3, 1, 1, 0, 1, 1]
noncomputable def r_HA0p : Out Value := headRn w f₁ f₂ f₃ h₀ g d os (yL + 358) OIT (.int xx tb) ⟨b, t, [p₃, p₄, (yL + 358, lawFr0 F)], 358, 0, h_HA0p, [], tabs0, []⟩ sk
theorem t_HA0p : (r_HA0p w f₁ f₂ f₃ h₀ g d os F yL OIT b t tb xx p₃ p₄ sk).sum [0, 1, 2, 3, 4] =
    some (.ref (b + 359), [some (b + 359, liObj (b + 358) 0), some (b + 358, lsObj (rests (t + 13) (t + 14) (t + 15) (t + 16) (t + 17) (t + 18))), some p₃, some p₄, some (yL + 358, lawFrA (F.numA (wF w f₁ f₂ f₃).params xx (sizeI xx) 0 (digs (sizeI xx)) tb (t + 4) (t + 7) (t + 11) (t + 0) (t + 5) (t + 8) (t + 12)))], (b, t, 360, 19, tabs0, []), [], [.repr (sizeI xx), .mod xx 3 0, .gt (xx + 1) 0], (r_HA0p w f₁ f₂ f₃ h₀ g d os F yL OIT b t tb xx p₃ p₄ sk).rt) := by
  cases f₁ <;> kernel_rfl
noncomputable def h_HA0n : List Nat := [3, 3, 0, 0, 3, 0, 0, 1, 0, 0, 0, 3, 3, 3, 0, 1, 3, 3, 3, 0, 0, 0, 0, 3, 0, 0, 0, 0, 1, 0, 0, 0, 3, 3, 1, 1, 0, 1, 1]
noncomputable def r_HA0n : Out Value := headRn w f₁ f₂ f₃ h₀ g d os (yL + 358) OIT (.int xx tb) ⟨b, t, [p₃, p₄, (yL + 358, lawFr0 F)], 358, 0, h_HA0n, [], tabs0, []⟩ sk
theorem t_HA0n : (r_HA0n w f₁ f₂ f₃ h₀ g d os F yL OIT b t tb xx p₃ p₄ sk).sum [0, 1, 2, 3, 4] =
    some (.ref (b + 359), [some (b + 359, liObj (b + 358) 0), some (b + 358, lsObj (rests (t + 14) (t + 15) (t + 16) (t + 17) (t + 18) (t + 19))), some p₃, some p₄, some (yL + 358, lawFrA (F.numA (wF w f₁ f₂ f₃).params xx (sizeI xx) 0 (digs (sizeI xx)) tb (t + 5) (t + 8) (t + 12) (t + 0) (t + 6) (t + 9) (t + 13)))], (b, t, 360, 20, tabs0, []), [], [.repr (sizeI xx), .mod xx 3 0, .gt 0 xx], (r_HA0n w f₁ f₂ f₃ h₀ g d os F yL OIT b t tb xx p₃ p₄ sk).rt) := by
  cases f₁ <;> kernel_rfl
noncomputable def h_HA1p : List Nat := [3, 3, 0, 0, 3, 0, 0, 2, 0, 0, 0, 3, 3, 3, 0, 2, 3, 3, 3, 0, 0, 0, 0, 3, 0, 0, 0, 0, 1, 0, 0, 1, 3, 3, 1, 1, 0, 1, 1]
noncomputable def r_HA1p : Out Value := headRn w f₁ f₂ f₃ h₀ g d os (yL + 358) OIT (.int xx tb) ⟨b, t, [p₃, p₄, (yL + 358, lawFr0 F)], 358, 0, h_HA1p, [], tabs0, []⟩ sk
theorem t_HA1p : (r_HA1p w f₁ f₂ f₃ h₀ g d os F yL OIT b t tb xx p₃ p₄ sk).sum [0, 1, 2, 3, 4] =
    some (.ref (b + 359), [some (b + 359, liObj (b + 358) 0), some (b + 358, lsObj (rests (t + 13) (t + 14) (t + 15) (t + 16) (t + 17) (t + 18))), some p₃, some p₄, some (yL + 358, lawFrA (F.numA (wF w f₁ f₂ f₃).params xx (sizeI xx) 1 (48 :: digs (sizeI xx)) tb (t + 4) (t + 7) (t + 11) (t + 0) (t + 5) (t + 8) (t + 12)))], (b, t, 360, 19, tabs0, []), [], [.add (tS [48]) (tS (digs (sizeI xx))), .repr (sizeI xx), .mod xx 3 1, .gt (xx + 1) 0], (r_HA1p w f₁ f₂ f₃ h₀ g d os F yL OIT b t tb xx p₃ p₄ sk).rt) := by
  cases f₁ <;> kernel_rfl
noncomputable def h_HA1n : List Nat := [3, 3, 0, 0, 3, 0, 0, 1, 0, 0, 0, 3, 3, 3, 0, 2, 3, 3, 3, 0, 0, 0, 0, 3, 0, 0, 0, 0, 1, 0, 0, 1, 3, 3, 1, 1, 0, 1, 1]
noncomputable def r_HA1n : Out Value := headRn w f₁ f₂ f₃ h₀ g d os (yL + 358) OIT (.int xx tb) ⟨b, t, [p₃, p₄, (yL + 358, lawFr0 F)], 358, 0, h_HA1n, [], tabs0, []⟩ sk
theorem t_HA1n : (r_HA1n w f₁ f₂ f₃ h₀ g d os F yL OIT b t tb xx p₃ p₄ sk).sum [0, 1, 2, 3, 4] =
    some (.ref (b + 359), [some (b + 359, liObj (b + 358) 0), some (b + 358, lsObj (rests (t + 14) (t + 15) (t + 16) (t + 17) (t + 18) (t + 19))), some p₃, some p₄, some (yL + 358, lawFrA (F.numA (wF w f₁ f₂ f₃).params xx (sizeI xx) 1 (48 :: digs (sizeI xx)) tb (t + 5) (t + 8) (t + 12) (t + 0) (t + 6) (t + 9) (t + 13)))], (b, t, 360, 20, tabs0, []), [], [.add (tS [48]) (tS (digs (sizeI xx))), .repr (sizeI xx), .mod xx 3 1, .gt 0 xx], (r_HA1n w f₁ f₂ f₃ h₀ g d os F yL OIT b t tb xx p₃ p₄ sk).rt) := by
  cases f₁ <;> kernel_rfl
noncomputable def h_HA2p : List Nat := [3, 3, 0, 0, 3, 0, 0, 2, 0, 0, 0, 3, 3, 3, 0, 3, 3, 3, 3, 0, 0, 0, 0, 3, 0, 0, 0, 0, 1, 0, 0, 1, 3, 3, 1, 1, 0, 1, 1]
noncomputable def r_HA2p : Out Value := headRn w f₁ f₂ f₃ h₀ g d os (yL + 358) OIT (.int xx tb) ⟨b, t, [p₃, p₄, (yL + 358, lawFr0 F)], 358, 0, h_HA2p, [], tabs0, []⟩ sk
theorem t_HA2p : (r_HA2p w f₁ f₂ f₃ h₀ g d os F yL OIT b t tb xx p₃ p₄ sk).sum [0, 1, 2, 3, 4] =
    some (.ref (b + 359), [some (b + 359, liObj (b + 358) 0), some (b + 358, lsObj (rests (t + 14) (t + 15) (t + 16) (t + 17) (t + 18) (t + 19))), some p₃, some p₄, some (yL + 358, lawFrA (F.numA (wF w f₁ f₂ f₃).params xx (sizeI xx) 2 (48 :: 48 :: digs (sizeI xx)) tb (t + 4) (t + 7) (t + 12) (t + 0) (t + 5) (t + 8) (t + 13)))], (b, t, 360, 20, tabs0, []), [], [.add (tS [48, 48]) (tS (digs (sizeI xx))), .repr (sizeI xx), .mod xx 3 2, .gt (xx + 1) 0], (r_HA2p w f₁ f₂ f₃ h₀ g d os F yL OIT b t tb xx p₃ p₄ sk).rt) := by
  cases f₁ <;> kernel_rfl
noncomputable def h_HA2n : List Nat := [3, 3, 0, 0, 3, 0, 0, 1, 0, 0, 0, 3, 3, 3, 0, 3, 3, 3, 3, 0, 0, 0, 0, 3, 0, 0, 0, 0, 1, 0, 0, 1, 3, 3, 1, 1, 0, 1, 1]
noncomputable def r_HA2n : Out Value := headRn w f₁ f₂ f₃ h₀ g d os (yL + 358) OIT (.int xx tb) ⟨b, t, [p₃, p₄, (yL + 358, lawFr0 F)], 358, 0, h_HA2n, [], tabs0, []⟩ sk
theorem t_HA2n : (r_HA2n w f₁ f₂ f₃ h₀ g d os F yL OIT b t tb xx p₃ p₄ sk).sum [0, 1, 2, 3, 4] =
    some (.ref (b + 359), [some (b + 359, liObj (b + 358) 0), some (b + 358, lsObj (rests (t + 15) (t + 16) (t + 17) (t + 18) (t + 19) (t + 20))), some p₃, some p₄, some (yL + 358, lawFrA (F.numA (wF w f₁ f₂ f₃).params xx (sizeI xx) 2 (48 :: 48 :: digs (sizeI xx)) tb (t + 5) (t + 8) (t + 13) (t + 0) (t + 6) (t + 9) (t + 14)))], (b, t, 360, 21, tabs0, []), [], [.add (tS [48, 48]) (tS (digs (sizeI xx))), .repr (sizeI xx), .mod xx 3 2, .gt 0 xx], (r_HA2n w f₁ f₂ f₃ h₀ g d os F yL OIT b t tb xx p₃ p₄ sk).rt) := by
  cases f₁ <;> kernel_rfl
noncomputable def h_HB0p : List Nat := [3, 3, 0, 0, 3, 0, 0, 2, 0, 0, 0, 3, 3, 3, 0, 1, 3, 3, 3, 0, 0, 0, 0, 3, 0, 0, 0, 0, 1, 0, 0, 0, 3, 3, 1, 1, 0, 1, 1]
noncomputable def r_HB0p : Out Value := headRn w f₁ f₂ f₃ h₀ g d os (yL + 358) OIT (.int xx tb) ⟨b, t, [p₃, p₄, (yL + 358, lawFr F bk)], 358, 0, h_HB0p, [], (tabs q₁ q₂), []⟩ sk
theorem t_HB0p : (r_HB0p w f₁ f₂ f₃ h₀ g d os F yL OIT q₁ q₂ bk b t tb xx p₃ p₄ sk).sum [0, 1, 2, 3, 4] =
    some (.ref (b + 359), [some (b + 359, liObj (b + 358) 0), some (b + 358, lsObj (rests (t + 13) (t + 14) (t + 15) (t + 16) (t + 17) (t + 18))), some p₃, some p₄, some (yL + 358, lawFr (F.num xx (sizeI xx) 0 (digs (sizeI xx)) tb (t + 4) (t + 7) (t + 11)) bk)], (b, t, 360, 19, (tabs q₁ q₂), []), [], [.repr (sizeI xx), .mod xx 3 0, .gt (xx + 1) 0], (r_HB0p w f₁ f₂ f₃ h₀ g d os F yL OIT q₁ q₂ bk b t tb xx p₃ p₄ sk).rt) := by
  cases f₁ <;> kernel_rfl
noncomputable def h_HB0n : List Nat := [3, 3, 0, 0, 3, 0, 0, 1, 0, 0, 0, 3, 3, 3, 0, 1, 3, 3, 3, 0, 0, 0, 0, 3, 0, 0, 0, 0, 1, 0, 0, 0, 3, 3, 1, 1, 0, 1, 1]
noncomputable def r_HB0n : Out Value := headRn w f₁ f₂ f₃ h₀ g d os (yL + 358) OIT (.int xx tb) ⟨b, t, [p₃, p₄, (yL + 358, lawFr F bk)], 358, 0, h_HB0n, [], (tabs q₁ q₂), []⟩ sk
theorem t_HB0n : (r_HB0n w f₁ f₂ f₃ h₀ g d os F yL OIT q₁ q₂ bk b t tb xx p₃ p₄ sk).sum [0, 1, 2, 3, 4] =
    some (.ref (b + 359), [some (b + 359, liObj (b + 358) 0), some (b + 358, lsObj (rests (t + 14) (t + 15) (t + 16) (t + 17) (t + 18) (t + 19))), some p₃, some p₄, some (yL + 358, lawFr (F.num xx (sizeI xx) 0 (digs (sizeI xx)) tb (t + 5) (t + 8) (t + 12)) bk)], (b, t, 360, 20, (tabs q₁ q₂), []), [], [.repr (sizeI xx), .mod xx 3 0, .gt 0 xx], (r_HB0n w f₁ f₂ f₃ h₀ g d os F yL OIT q₁ q₂ bk b t tb xx p₃ p₄ sk).rt) := by
  cases f₁ <;> kernel_rfl
noncomputable def h_HB1p : List Nat := [3, 3, 0, 0, 3, 0, 0, 2, 0, 0, 0, 3, 3, 3, 0, 2, 3, 3, 3, 0, 0, 0, 0, 3, 0, 0, 0, 0, 1, 0, 0, 1, 3, 3, 1, 1, 0, 1, 1]
noncomputable def r_HB1p : Out Value := headRn w f₁ f₂ f₃ h₀ g d os (yL + 358) OIT (.int xx tb) ⟨b, t, [p₃, p₄, (yL + 358, lawFr F bk)], 358, 0, h_HB1p, [], (tabs q₁ q₂), []⟩ sk
theorem t_HB1p : (r_HB1p w f₁ f₂ f₃ h₀ g d os F yL OIT q₁ q₂ bk b t tb xx p₃ p₄ sk).sum [0, 1, 2, 3, 4] =
    some (.ref (b + 359), [some (b + 359, liObj (b + 358) 0), some (b + 358, lsObj (rests (t + 13) (t + 14) (t + 15) (t + 16) (t + 17) (t + 18))), some p₃, some p₄, some (yL + 358, lawFr (F.num xx (sizeI xx) 1 (48 :: digs (sizeI xx)) tb (t + 4) (t + 7) (t + 11)) bk)], (b, t, 360, 19, (tabs q₁ q₂), []), [], [.add (tS [48]) (tS (digs (sizeI xx))), .repr (sizeI xx), .mod xx 3 1, .gt (xx + 1) 0], (r_HB1p w f₁ f₂ f₃ h₀ g d os F yL OIT q₁ q₂ bk b t tb xx p₃ p₄ sk).rt) := by
  cases f₁ <;> kernel_rfl
noncomputable def h_HB1n : List Nat := [3, 3, 0, 0, 3, 0, 0, 1, 0, 0, 0, 3, 3, 3, 0, 2, 3, 3, 3, 0, 0, 0, 0, 3, 0, 0, 0, 0, 1, 0, 0, 1, 3, 3, 1, 1, 0, 1, 1]
noncomputable def r_HB1n : Out Value := headRn w f₁ f₂ f₃ h₀ g d os (yL + 358) OIT (.int xx tb) ⟨b, t, [p₃, p₄, (yL + 358, lawFr F bk)], 358, 0, h_HB1n, [], (tabs q₁ q₂), []⟩ sk
theorem t_HB1n : (r_HB1n w f₁ f₂ f₃ h₀ g d os F yL OIT q₁ q₂ bk b t tb xx p₃ p₄ sk).sum [0, 1, 2, 3, 4] =
    some (.ref (b + 359), [some (b + 359, liObj (b + 358) 0), some (b + 358, lsObj (rests (t + 14) (t + 15) (t + 16) (t + 17) (t + 18) (t + 19))), some p₃, some p₄, some (yL + 358, lawFr (F.num xx (sizeI xx) 1 (48 :: digs (sizeI xx)) tb (t + 5) (t + 8) (t + 12)) bk)], (b, t, 360, 20, (tabs q₁ q₂), []), [], [.add (tS [48]) (tS (digs (sizeI xx))), .repr (sizeI xx), .mod xx 3 1, .gt 0 xx], (r_HB1n w f₁ f₂ f₃ h₀ g d os F yL OIT q₁ q₂ bk b t tb xx p₃ p₄ sk).rt) := by
  cases f₁ <;> kernel_rfl
noncomputable def h_HB2p : List Nat := [3, 3, 0, 0, 3, 0, 0, 2, 0, 0, 0, 3, 3, 3, 0, 3, 3, 3, 3, 0, 0, 0, 0, 3, 0, 0, 0, 0, 1, 0, 0, 1, 3, 3, 1, 1, 0, 1, 1]
noncomputable def r_HB2p : Out Value := headRn w f₁ f₂ f₃ h₀ g d os (yL + 358) OIT (.int xx tb) ⟨b, t, [p₃, p₄, (yL + 358, lawFr F bk)], 358, 0, h_HB2p, [], (tabs q₁ q₂), []⟩ sk
theorem t_HB2p : (r_HB2p w f₁ f₂ f₃ h₀ g d os F yL OIT q₁ q₂ bk b t tb xx p₃ p₄ sk).sum [0, 1, 2, 3, 4] =
    some (.ref (b + 359), [some (b + 359, liObj (b + 358) 0), some (b + 358, lsObj (rests (t + 14) (t + 15) (t + 16) (t + 17) (t + 18) (t + 19))), some p₃, some p₄, some (yL + 358, lawFr (F.num xx (sizeI xx) 2 (48 :: 48 :: digs (sizeI xx)) tb (t + 4) (t + 7) (t + 12)) bk)], (b, t, 360, 20, (tabs q₁ q₂), []), [], [.add (tS [48, 48]) (tS (digs (sizeI xx))), .repr (sizeI xx), .mod xx 3 2, .gt (xx + 1) 0], (r_HB2p w f₁ f₂ f₃ h₀ g d os F yL OIT q₁ q₂ bk b t tb xx p₃ p₄ sk).rt) := by
  cases f₁ <;> kernel_rfl
noncomputable def h_HB2n : List Nat := [3, 3, 0, 0, 3, 0, 0, 1, 0, 0, 0, 3, 3, 3, 0, 3, 3, 3, 3, 0, 0, 0, 0, 3, 0, 0, 0, 0, 1, 0, 0, 1, 3, 3, 1, 1, 0, 1, 1]
noncomputable def r_HB2n : Out Value := headRn w f₁ f₂ f₃ h₀ g d os (yL + 358) OIT (.int xx tb) ⟨b, t, [p₃, p₄, (yL + 358, lawFr F bk)], 358, 0, h_HB2n, [], (tabs q₁ q₂), []⟩ sk
theorem t_HB2n : (r_HB2n w f₁ f₂ f₃ h₀ g d os F yL OIT q₁ q₂ bk b t tb xx p₃ p₄ sk).sum [0, 1, 2, 3, 4] =
    some (.ref (b + 359), [some (b + 359, liObj (b + 358) 0), some (b + 358, lsObj (rests (t + 15) (t + 16) (t + 17) (t + 18) (t + 19) (t + 20))), some p₃, some p₄, some (yL + 358, lawFr (F.num xx (sizeI xx) 2 (48 :: 48 :: digs (sizeI xx)) tb (t + 5) (t + 8) (t + 13)) bk)], (b, t, 360, 21, (tabs q₁ q₂), []), [], [.add (tS [48, 48]) (tS (digs (sizeI xx))), .repr (sizeI xx), .mod xx 3 2, .gt 0 xx], (r_HB2n w f₁ f₂ f₃ h₀ g d os F yL OIT q₁ q₂ bk b t tb xx p₃ p₄ sk).rt) := by
  cases f₁ <;> kernel_rfl
noncomputable def h_LAST : List Nat := [0, 0, 0, 0, 0, 1, 1, 1, 1, 0, 2, 0, 1, 0, 0, 0, 0, 1, 1, 0, 1, 0, 0, 0, 0, 0, 0, 0, 0, 0, 0, 0, 0, 0, 0, 0, 0, 0, 0, 0, 0, 0, 1, 0, 1, 0, 0, 0, 0, 0, 0, 0, 0, 0, 1, 1, 1, 1, 1, 1, 0, 0, 0, 0, 0, 0, 0, 1, 0, 0, 0, 0, 1, 1, 0, 1, 0, 5, 5, 0, 1, 1, 1, 1, 1, 1, 1, 0, 1, 1, 1, 1, 0, 0, 0, 5, 0, 3, 4, 5, 5, 1, 5, 5, 5, 6, 0, 7, 7, 1, 1, 1, 1, 1, 2, 3, 0, 3, 8, 8, 8, 8, 6, 9, 0, 0, 0, 0, 0, 0, 9, 0, 9, 0, 9, 0, 0, 0, 0, 0, 9, 0, 10, 10, 10, 11, 11, 11, 0, 0, 0, 0, 11, 0, 0, 0, 0, 0, 0, 0, 0, 0, 0, 0, 0, 0, 0, 0, 0, 0, 0, 0, 0, 0, 0, 0, 0, 0, 0, 0, 0, 0, 1, 0, 1, 0, 0, 0, 0, 0, 0, 0, 0, 1, 0, 1, 0, 2, 2, 2, 2, 2, 0, 2, 2, 0, 2, 2, 14, 14, 15, 15, 16, 3, 3, 3, 1, 1, 3, 1, 1, 1, 16, 4, 4, 4, 1, 1, 0, 0, 0, 0, 0, 4, 0, 0, 4, 1, 1, 17, 17, 0, 0, 17, 0, 0, 1, 4, 0, 0, 0, 0, 0, 0, 0, 0, 4, 0, 4, 3, 0, 17, 0, 0, 17, 17, 17, 17]
noncomputable def r_LAST : Out Flow := lastRun w f₁ f₂ f₃ h₀ g d os callerA (yL + 358) ⟨b, t, [(yL + 358, lawFr F bk)], 358, 0, h_LAST, [], tabs q₁ q₂, []⟩ sk
theorem t_LAST : (r_LAST w f₁ f₂ f₃ h₀ g d os F yL q₁ q₂ bk b t sk).sum [17] =
    some (.ret (.bool true), [some (yL + 358, lawFr F bk)], (b, t, 375, 18, tabs q₁ q₂, []), [], [.addr (b + 368) (b + 362)], (r_LAST w f₁ f₂ f₃ h₀ g d os F yL q₁ q₂ bk b t sk).rt) := by
  cases f₁ <;> kernel_rfl
end
end Mine

namespace Mine
noncomputable def FrD.law (P : Params) (sc : Value) (k₀ : Nat) : FrD := { h := fun _ => PyData.keyHash P (Str.ofString "script"), k := fun _ => k₀, sc, sec := .none, told := .none, x := 0, n := 0, kk := 0, fig := [], beh := [], rest := [], wrong := [] }
noncomputable def h_LAW1 : List Nat := [0, 0, 1, 1, 0]
noncomputable def h_LAW2 : List Nat := [1, 3, 3, 3, 0, 3, 1, 1, 3, 2, 1, 2, 0, 2, 1, 1, 2, 1, 1, 1, 0, 1, 1]
noncomputable def lsG (dd : Option Addr) (nn : Nat) (sl : Array (Option Value)) (vs : Array Value) : Obj := ⟨.type "list", dd, .seq vs nn, sl⟩
section
variable (w : World) (f₁ f₂ f₃ : Bool) (h₀ : Heap) (g : Array GenState) (d : Drawn) (os : OsState) (F : FrD) (yL S : Nat) (vs : Array Value) (dd : Option Addr) (nn : Nat) (sl : Array (Option Value)) (b t : Nat) (sk : Sk)
noncomputable def r_LAW1 : Out Fin :=
  runPh (run (VT w f₁ f₂ f₃ h₀ g d os [] []) 4000) callerA (.call (.ref 357) ⟨[.ref S], []⟩) ((VT w f₁ f₂ f₃ h₀ g d os [] []).D callerA (.call (.ref 357) ⟨[.ref S], []⟩)) ⟨b, t, [(S, lsG dd nn sl vs)], 358, 0, h_LAW1, [], tabs0, []⟩ sk
theorem t_LAW1 : (r_LAW1 w f₁ f₂ f₃ h₀ g d os S vs dd nn sl b t sk).sum [0, 1] =
    some (.again (.func (lawBody (KT w f₁ f₂ f₃)) (lawEnv (KT w f₁ f₂ f₃) (b + 358))), [some (b + 358, lawFr0 (FrD.law (wF w f₁ f₂ f₃).params (.ref S) (t + 0))), some (S, lsG dd nn sl vs)], (b, t, 359, 1, tabs0, []), [], [], (r_LAW1 w f₁ f₂ f₃ h₀ g d os S vs dd nn sl b t sk).rt) := by
  cases f₁ <;> kernel_rfl
noncomputable def lawListT (K : Frag) (L : Nat) : Sem Value := forT (outerIn K).2.1 (forPos (lawBody K)) (lawEnv K L)
noncomputable def r_LAW2 : Out Value :=
  run (VT w f₁ f₂ f₃ h₀ g d os [] []) 4000 callerA (.func (lawBody (KT w f₁ f₂ f₃)) (lawEnv (KT w f₁ f₂ f₃) (yL + 358))) Value (lawListT (KT w f₁ f₂ f₃) (yL + 358)) ⟨b, t, [(yL + 358, lawFr0 { F with sc := .ref S }), (S, lsG dd nn sl vs)], 358, 0, h_LAW2, [], tabs0, []⟩ sk
theorem t_LAW2 : (r_LAW2 w f₁ f₂ f₃ h₀ g d os F yL S vs dd nn sl b t sk).sum [0, 1, 5, 6] =
    some (.ref (b + 362), [some (b + 362, liObj (b + 361) 0), some (b + 361, lsObj (slicePick vs none (some 12) none ++ #[.int 7 (t + 1)])), some (yL + 358, lawFr0 { F with sc := .ref S }), some (S, lsG dd nn sl vs)], (b, t, 363, 2, tabs0, []), [],
      [.le ((slicePick vs none (some 12) none).size + 1) sizeLine, .le vs.size sizeLine], (r_LAW2 w f₁ f₂ f₃ h₀ g d os F yL S vs dd nn sl b t sk).rt) := by
  cases f₁ <;> kernel_rfl
end
end Mine

namespace Mine
theorem ok_BPY {w : World} {f₁ f₂ f₃ : Bool} {F : FrD} {yL b t : Nat} {x : Nat} {r : List Nat} {y : Nat} {ys : List Nat} (hr : r.length ≤ 40) (hkk : F.kk > 0) (hyl : ys.length ≤ 10) (hy : Unicode.isDigit y = false) (hi : PySem.intText? (tS (48 :: x :: r)) = some F.n) (hn : (Dsc.repr F.n).P) (hk : F.k 13 < t) : AllP (c_BPY w f₁ f₂ f₃ F x r y ys b t) := by
  have hl : (t + 39) ≤ (lpT true (48 :: (x :: r)) (List.isEmpty (y :: ys)) (t + 39) (t + 31) (t + 37)).1 := lpT_ge ..
  exact ⟨rfl,
    d_fmt (by simp only [len_tS, List.length_cons, List.length_append, List.length_nil]; omega) (by simp only [len_tS, List.length_cons, List.length_append, List.length_nil]; omega),
    d_small (by simp only [len_tS, List.length_cons, List.length_append, List.length_nil]; omega),
    d_addr (by omega),
    d_add (List.cons_ne_nil _ _) (List.cons_ne_nil _ _) (by simp only [len_tS, List.length_cons, List.length_append, List.length_nil]; omega),
    rfl,
    d_fmt (by simp only [len_tS, List.length_cons, List.length_append, List.length_nil]; omega) (by simp only [len_tS, List.length_cons, List.length_append, List.length_nil]; omega),
    d_small (by simp only [len_tS, List.length_cons, List.length_append, List.length_nil]; omega),
    d_addr (by omega),
    d_add (List.cons_ne_nil _ _) (List.cons_ne_nil _ _) (by simp only [len_tS, List.length_cons, List.length_append, List.length_nil]; omega),
    rfl,
    d_fmt (by simp only [len_tS, List.length_cons, List.length_append, List.length_nil]; omega) (by simp only [len_tS, List.length_cons, List.length_append, List.length_nil]; omega),
    d_small (by simp only [len_tS, List.length_cons, List.length_append, List.length_nil]; omega),
    d_addr (by omega),
    d_add (List.cons_ne_nil _ _) (List.cons_ne_nil _ _) (by simp only [len_tS, List.length_cons, List.length_append, List.length_nil]; omega),
    d_add (List.cons_ne_nil _ _) (List.cons_ne_nil _ _) (by simp only [len_tS, List.length_cons, List.length_append, List.length_nil]; omega),
    d_add (List.cons_ne_nil _ _) (List.cons_ne_nil _ _) (by simp only [len_tS, List.length_cons, List.length_append, List.length_nil]; omega),
    d_add (List.cons_ne_nil _ _) (List.cons_ne_nil _ _) (by simp only [len_tS, List.length_cons, List.length_append, List.length_nil]; omega),
    d_add (List.cons_ne_nil _ _) (List.cons_ne_nil _ _) (by simp only [len_tS, List.length_cons, List.length_append, List.length_nil]; omega),
    d_add (List.cons_ne_nil _ _) (List.cons_ne_nil _ _) (by simp only [len_tS, List.length_cons, List.length_append, List.length_nil]; omega),
    rfl,
    d_fmt (by simp only [len_tS, List.length_cons, List.length_append, List.length_nil]; omega) (by simp only [len_tS, List.length_cons, List.length_append, List.length_nil]; omega),
    d_nodig hy,
    d_small (by simp only [len_tS, List.length_cons, List.length_append, List.length_nil]; omega),
    d_size (by simp only [len_tS, List.length_cons, List.length_append, List.length_nil]; omega),
    d_small (by simp only [len_tS, List.length_cons, List.length_append, List.length_nil]; omega),
    d_addr (by omega),
    d_add (List.cons_ne_nil _ _) (List.cons_ne_nil _ _) (by simp only [len_tS, List.length_cons, List.length_append, List.length_nil]; omega),
    d_add (List.cons_ne_nil _ _) (List.cons_ne_nil _ _) (by simp only [len_tS, List.length_cons, List.length_append, List.length_nil]; omega),
    d_diffS (by omega),
    d_diffR (by omega),
    d_gt hkk,
    d_addr (by omega),
    d_addr (by omega),
    rfl,
    rfl,
    d_add (List.cons_ne_nil _ _) (List.cons_ne_nil _ _) (by simp only [len_tS, List.length_cons, List.length_append, List.length_nil]; omega),
    d_join (by simp only [len_tS, List.length_cons, List.length_append, List.length_nil]; omega),
    d_small (by simp only [len_tS, List.length_cons, List.length_append, List.length_nil]; omega),
    d_addr (by omega),
    (by rw [hi]; rfl),
    hn,
    (by rw [hi]; exact hn),
    rfl,
    d_diffS (by omega),
    d_diffS (by omega),
    d_diffR (by omega),
    d_diffS (by omega),
    d_diffS (by omega),
    d_diffR (by omega),
    d_str (by simp only [len_tS, List.length_cons, List.length_append, List.length_nil]; omega),
    d_str (by simp only [len_tS, List.length_cons, List.length_append, List.length_nil]; omega),
    d_txt (by simp only [len_tS, List.length_cons, List.length_append, List.length_nil]; omega) hi,
    d_addr (by omega),
    d_ne2,
    rfl,
    rfl,
    d_le (by omega),
    d_le (by omega),
    d_small (by simp only [len_tS, List.length_cons, List.length_append, List.length_nil]; omega),
    d_size (by simp only [len_tS, List.length_cons, List.length_append, List.length_nil]; omega),
    d_small (by simp only [len_tS, List.length_cons, List.length_append, List.length_nil]; omega),
    d_addr (by omega),
    d_add (List.cons_ne_nil _ _) (List.cons_ne_nil _ _) (by simp only [len_tS, List.length_cons, List.length_append, List.length_nil]; omega),
    d_add (List.cons_ne_nil _ _) (List.cons_ne_nil _ _) (by simp only [len_tS, List.length_cons, List.length_append, List.length_nil]; omega), trivial⟩
theorem ok_BPE {w : World} {f₁ f₂ f₃ : Bool} {F : FrD} {yL b t : Nat} {x : Nat} {r : List Nat} (hr : r.length ≤ 40) (hkk : F.kk > 0) (hi : PySem.intText? (tS (48 :: x :: r)) = some F.n) (hn : (Dsc.repr F.n).P) (hk : F.k 13 < t) : AllP (c_BPE w f₁ f₂ f₃ F x r b t) := by
  have hl : (t + 38) ≤ (lpT true (48 :: (x :: r)) (List.isEmpty ([] : List Nat)) (t + 38) (t + 30) (t + 36)).1 := lpT_ge ..
  exact ⟨rfl,
    d_fmt (by simp only [len_tS, List.length_cons, List.length_append, List.length_nil]; omega) (by simp only [len_tS, List.length_cons, List.length_append, List.length_nil]; omega),
    d_small (by simp only [len_tS, List.length_cons, List.length_append, List.length_nil]; omega),
    d_addr (by omega),
    d_add (List.cons_ne_nil _ _) (List.cons_ne_nil _ _) (by simp only [len_tS, List.length_cons, List.length_append, List.length_nil]; omega),
    rfl,
    d_fmt (by simp only [len_tS, List.length_cons, List.length_append, List.length_nil]; omega) (by simp only [len_tS, List.length_cons, List.length_append, List.length_nil]; omega),
    d_small (by simp only [len_tS, List.length_cons, List.length_append, List.length_nil]; omega),
    d_addr (by omega),
    d_add (List.cons_ne_nil _ _) (List.cons_ne_nil _ _) (by simp only [len_tS, List.length_cons, List.length_append, List.length_nil]; omega),
    rfl,
    d_fmt (by simp only [len_tS, List.length_cons, List.length_append, List.length_nil]; omega) (by simp only [len_tS, List.length_cons, List.length_append, List.length_nil]; omega),
    d_small (by simp only [len_tS, List.length_cons, List.length_append, List.length_nil]; omega),
    d_addr (by omega),
    d_add (List.cons_ne_nil _ _) (List.cons_ne_nil _ _) (by simp only [len_tS, List.length_cons, List.length_append, List.length_nil]; omega),
    d_add (List.cons_ne_nil _ _) (List.cons_ne_nil _ _) (by simp only [len_tS, List.length_cons, List.length_append, List.length_nil]; omega),
    d_add (List.cons_ne_nil _ _) (List.cons_ne_nil _ _) (by simp only [len_tS, List.length_cons, List.length_append, List.length_nil]; omega),
    d_addr (by omega),
    d_diffS (by omega),
    d_diffR (by omega),
    d_gt hkk,
    d_addr (by omega),
    d_addr (by omega),
    rfl,
    d_add (List.cons_ne_nil _ _) (List.cons_ne_nil _ _) (by simp only [len_tS, List.length_cons, List.length_append, List.length_nil]; omega),
    d_join (by simp only [len_tS, List.length_cons, List.length_append, List.length_nil]; omega),
    d_small (by simp only [len_tS, List.length_cons, List.length_append, List.length_nil]; omega),
    d_addr (by omega),
    (by rw [hi]; rfl),
    hn,
    (by rw [hi]; exact hn),
    rfl,
    d_diffS (by omega),
    d_diffS (by omega),
    d_diffR (by omega),
    d_diffS (by omega),
    d_diffS (by omega),
    d_diffR (by omega),
    d_str (by simp only [len_tS, List.length_cons, List.length_append, List.length_nil]; omega),
    d_str (by simp only [len_tS, List.length_cons, List.length_append, List.length_nil]; omega),
    d_txt (by simp only [len_tS, List.length_cons, List.length_append, List.length_nil]; omega) hi,
    d_addr (by omega),
    d_ne2,
    rfl,
    (by apply Eq.symm; exact List.append_nil _),
    d_le (by omega),
    d_le (by omega),
    d_small (by simp only [len_tS, List.length_cons, List.length_append, List.length_nil]; omega),
    d_size (by simp only [len_tS, List.length_cons, List.length_append, List.length_nil]; omega),
    d_small (by simp only [len_tS, List.length_cons, List.length_append, List.length_nil]; omega),
    d_addr (by omega),
    d_add (List.cons_ne_nil _ _) (List.cons_ne_nil _ _) (by simp only [len_tS, List.length_cons, List.length_append, List.length_nil]; omega), trivial⟩
theorem ok_BHY {w : World} {f₁ f₂ f₃ : Bool} {F : FrD} {yL b t : Nat} {x : Nat} {r : List Nat} {y : Nat} {ys : List Nat} (hr : r.length ≤ 40) (hx : Unicode.isDigit x = true) (hx42 : x ≠ 42) (hx48 : x ≠ 48) (hyl : ys.length ≤ 10) (hy : Unicode.isDigit y = false) (hi : PySem.intText? (tS (x :: r)) = some F.n) (hn : (Dsc.repr F.n).P) (hk : F.k 13 < t) : AllP (c_BHY w f₁ f₂ f₃ F x r y ys b t) := by
  have hl : (t + 39) ≤ (lpT true (x :: r) (List.isEmpty (y :: ys)) (t + 39) (t + 31) (t + 37)).1 := lpT_ge ..
  exact ⟨rfl,
    d_fmt (by simp only [len_tS, List.length_cons, List.length_append, List.length_nil]; omega) (by simp only [len_tS, List.length_cons, List.length_append, List.length_nil]; omega),
    d_small (by simp only [len_tS, List.length_cons, List.length_append, List.length_nil]; omega),
    d_addr (by omega),
    d_add (List.cons_ne_nil _ _) (List.cons_ne_nil _ _) (by simp only [len_tS, List.length_cons, List.length_append, List.length_nil]; omega),
    rfl,
    d_fmt (by simp only [len_tS, List.length_cons, List.length_append, List.length_nil]; omega) (by simp only [len_tS, List.length_cons, List.length_append, List.length_nil]; omega),
    d_small (by simp only [len_tS, List.length_cons, List.length_append, List.length_nil]; omega),
    d_addr (by omega),
    d_add (List.cons_ne_nil _ _) (List.cons_ne_nil _ _) (by simp only [len_tS, List.length_cons, List.length_append, List.length_nil]; omega),
    rfl,
    d_fmt (by simp only [len_tS, List.length_cons, List.length_append, List.length_nil]; omega) (by simp only [len_tS, List.length_cons, List.length_append, List.length_nil]; omega),
    d_ne1 hx42,
    d_small (by simp only [len_tS, List.length_cons, List.length_append, List.length_nil]; omega),
    d_addr (by omega),
    d_add (List.cons_ne_nil _ _) (List.cons_ne_nil _ _) (by simp only [len_tS, List.length_cons, List.length_append, List.length_nil]; omega),
    d_add (List.cons_ne_nil _ _) (List.cons_ne_nil _ _) (by simp only [len_tS, List.length_cons, List.length_append, List.length_nil]; omega),
    d_add (List.cons_ne_nil _ _) (List.cons_ne_nil _ _) (by simp only [len_tS, List.length_cons, List.length_append, List.length_nil]; omega),
    d_add (List.cons_ne_nil _ _) (List.cons_ne_nil _ _) (by simp only [len_tS, List.length_cons, List.length_append, List.length_nil]; omega),
    d_add (List.cons_ne_nil _ _) (List.cons_ne_nil _ _) (by simp only [len_tS, List.length_cons, List.length_append, List.length_nil]; omega),
    d_add (List.cons_ne_nil _ _) (List.cons_ne_nil _ _) (by simp only [len_tS, List.length_cons, List.length_append, List.length_nil]; omega),
    rfl,
    d_fmt (by simp only [len_tS, List.length_cons, List.length_append, List.length_nil]; omega) (by simp only [len_tS, List.length_cons, List.length_append, List.length_nil]; omega),
    d_nodig hy,
    d_small (by simp only [len_tS, List.length_cons, List.length_append, List.length_nil]; omega),
    d_size (by simp only [len_tS, List.length_cons, List.length_append, List.length_nil]; omega),
    d_small (by simp only [len_tS, List.length_cons, List.length_append, List.length_nil]; omega),
    d_addr (by omega),
    d_add (List.cons_ne_nil _ _) (List.cons_ne_nil _ _) (by simp only [len_tS, List.length_cons, List.length_append, List.length_nil]; omega),
    d_add (List.cons_ne_nil _ _) (List.cons_ne_nil _ _) (by simp only [len_tS, List.length_cons, List.length_append, List.length_nil]; omega),
    d_addr (by omega),
    d_addr (by omega),
    rfl,
    rfl,
    d_add (List.cons_ne_nil _ _) (List.cons_ne_nil _ _) (by simp only [len_tS, List.length_cons, List.length_append, List.length_nil]; omega),
    d_join (by simp only [len_tS, List.length_cons, List.length_append, List.length_nil]; omega),
    d_small (by simp only [len_tS, List.length_cons, List.length_append, List.length_nil]; omega),
    d_addr (by omega),
    (by rw [hi]; rfl),
    hn,
    (by rw [hi]; exact hn),
    rfl,
    d_diffS (by omega),
    d_diffS (by omega),
    d_diffR (by omega),
    d_diffS (by omega),
    d_diffS (by omega),
    d_diffR (by omega),
    d_str (by simp only [len_tS, List.length_cons, List.length_append, List.length_nil]; omega),
    d_str (by simp only [len_tS, List.length_cons, List.length_append, List.length_nil]; omega),
    d_txt (by simp only [len_tS, List.length_cons, List.length_append, List.length_nil]; omega) hi,
    d_ne1 hx48,
    rfl,
    rfl,
    d_le (by omega),
    d_le (by omega),
    d_dig hx,
    d_small (by simp only [len_tS, List.length_cons, List.length_append, List.length_nil]; omega),
    d_size (by simp only [len_tS, List.length_cons, List.length_append, List.length_nil]; omega),
    d_small (by simp only [len_tS, List.length_cons, List.length_append, List.length_nil]; omega),
    d_addr (by omega),
    d_add (List.cons_ne_nil _ _) (List.cons_ne_nil _ _) (by simp only [len_tS, List.length_cons, List.length_append, List.length_nil]; omega),
    d_add (List.cons_ne_nil _ _) (List.cons_ne_nil _ _) (by simp only [len_tS, List.length_cons, List.length_append, List.length_nil]; omega), trivial⟩
theorem ok_BHE {w : World} {f₁ f₂ f₃ : Bool} {F : FrD} {yL b t : Nat} {x : Nat} {r : List Nat} (hr : r.length ≤ 40) (hx : Unicode.isDigit x = true) (hx42 : x ≠ 42) (hx48 : x ≠ 48) (hi : PySem.intText? (tS (x :: r)) = some F.n) (hn : (Dsc.repr F.n).P) (hk : F.k 13 < t) : AllP (c_BHE w f₁ f₂ f₃ F x r b t) := by
  have hl : (t + 38) ≤ (lpT true (x :: r) (List.isEmpty ([] : List Nat)) (t + 38) (t + 30) (t + 36)).1 := lpT_ge ..
  exact ⟨rfl,
    d_fmt (by simp only [len_tS, List.length_cons, List.length_append, List.length_nil]; omega) (by simp only [len_tS, List.length_cons, List.length_append, List.length_nil]; omega),
    d_small (by simp only [len_tS, List.length_cons, List.length_append, List.length_nil]; omega),
    d_addr (by omega),
    d_add (List.cons_ne_nil _ _) (List.cons_ne_nil _ _) (by simp only [len_tS, List.length_cons, List.length_append, List.length_nil]; omega),
    rfl,
    d_fmt (by simp only [len_tS, List.length_cons, List.length_append, List.length_nil]; omega) (by simp only [len_tS, List.length_cons, List.length_append, List.length_nil]; omega),
    d_small (by simp only [len_tS, List.length_cons, List.length_append, List.length_nil]; omega),
    d_addr (by omega),
    d_add (List.cons_ne_nil _ _) (List.cons_ne_nil _ _) (by simp only [len_tS, List.length_cons, List.length_append, List.length_nil]; omega),
    rfl,
    d_fmt (by simp only [len_tS, List.length_cons, List.length_append, List.length_nil]; omega) (by simp only [len_tS, List.length_cons, List.length_append, List.length_nil]; omega),
    d_ne1 hx42,
    d_small (by simp only [len_tS, List.length_cons, List.length_append, List.length_nil]; omega),
    d_addr (by omega),
    d_add (List.cons_ne_nil _ _) (List.cons_ne_nil _ _) (by simp only [len_tS, List.length_cons, List.length_append, List.length_nil]; omega),
    d_add (List.cons_ne_nil _ _) (List.cons_ne_nil _ _) (by simp only [len_tS, List.length_cons, List.length_append, List.length_nil]; omega),
    d_add (List.cons_ne_nil _ _) (List.cons_ne_nil _ _) (by simp only [len_tS, List.length_cons, List.length_append, List.length_nil]; omega),
    d_addr (by omega),
    d_addr (by omega),
    d_addr (by omega),
    rfl,
    d_add (List.cons_ne_nil _ _) (List.cons_ne_nil _ _) (by simp only [len_tS, List.length_cons, List.length_append, List.length_nil]; omega),
    d_join (by simp only [len_tS, List.length_cons, List.length_append, List.length_nil]; omega),
    d_small (by simp only [len_tS, List.length_cons, List.length_append, List.length_nil]; omega),
    d_addr (by omega),
    (by rw [hi]; rfl),
    hn,
    (by rw [hi]; exact hn),
    rfl,
    d_diffS (by omega),
    d_diffS (by omega),
    d_diffR (by omega),
    d_diffS (by omega),
    d_diffS (by omega),
    d_diffR (by omega),
    d_str (by simp only [len_tS, List.length_cons, List.length_append, List.length_nil]; omega),
    d_str (by simp only [len_tS, List.length_cons, List.length_append, List.length_nil]; omega),
    d_txt (by simp only [len_tS, List.length_cons, List.length_append, List.length_nil]; omega) hi,
    d_ne1 hx48,
    rfl,
    (by apply Eq.symm; exact List.append_nil _),
    d_le (by omega),
    d_le (by omega),
    d_dig hx,
    d_small (by simp only [len_tS, List.length_cons, List.length_append, List.length_nil]; omega),
    d_size (by simp only [len_tS, List.length_cons, List.length_append, List.length_nil]; omega),
    d_small (by simp only [len_tS, List.length_cons, List.length_append, List.length_nil]; omega),
    d_addr (by omega),
    d_add (List.cons_ne_nil _ _) (List.cons_ne_nil _ _) (by simp only [len_tS, List.length_cons, List.length_append, List.length_nil]; omega), trivial⟩
theorem ok_BZY {w : World} {f₁ f₂ f₃ : Bool} {F : FrD} {yL b t : Nat} {y : Nat} {ys : List Nat} (hyl : ys.length ≤ 10) (hy : Unicode.isDigit y = false) (hi : PySem.intText? (tS [48]) = some 0) (hn : (Dsc.repr 0).P) (hk : F.k 13 < t) : AllP (c_BZY w f₁ f₂ f₃ F y ys b t) := by
  have hl : (t + 39) ≤ (lpT true (48 :: []) (List.isEmpty (y :: ys)) (t + 39) (t + 31) (t + 37)).1 := lpT_ge ..
  exact ⟨rfl,
    d_fmt (by simp only [len_tS, List.length_cons, List.length_append, List.length_nil]; omega) (by simp only [len_tS, List.length_cons, List.length_append, List.length_nil]; omega),
    d_small (by simp only [len_tS, List.length_cons, List.length_append, List.length_nil]; omega),
    d_addr (by omega),
    d_add (List.cons_ne_nil _ _) (List.cons_ne_nil _ _) (by simp only [len_tS, List.length_cons, List.length_append, List.length_nil]; omega),
    rfl,
    d_fmt (by simp only [len_tS, List.length_cons, List.length_append, List.length_nil]; omega) (by simp only [len_tS, List.length_cons, List.length_append, List.length_nil]; omega),
    d_small (by simp only [len_tS, List.length_cons, List.length_append, List.length_nil]; omega),
    d_addr (by omega),
    d_add (List.cons_ne_nil _ _) (List.cons_ne_nil _ _) (by simp only [len_tS, List.length_cons, List.length_append, List.length_nil]; omega),
    rfl,
    d_fmt (by simp only [len_tS, List.length_cons, List.length_append, List.length_nil]; omega) (by simp only [len_tS, List.length_cons, List.length_append, List.length_nil]; omega),
    d_small (by simp only [len_tS, List.length_cons, List.length_append, List.length_nil]; omega),
    d_addr (by omega),
    d_add (List.cons_ne_nil _ _) (List.cons_ne_nil _ _) (by simp only [len_tS, List.length_cons, List.length_append, List.length_nil]; omega),
    d_add (List.cons_ne_nil _ _) (List.cons_ne_nil _ _) (by simp only [len_tS, List.length_cons, List.length_append, List.length_nil]; omega),
    d_add (List.cons_ne_nil _ _) (List.cons_ne_nil _ _) (by simp only [len_tS, List.length_cons, List.length_append, List.length_nil]; omega),
    d_add (List.cons_ne_nil _ _) (List.cons_ne_nil _ _) (by simp only [len_tS, List.length_cons, List.length_append, List.length_nil]; omega),
    rfl,
    d_fmt (by simp only [len_tS, List.length_cons, List.length_append, List.length_nil]; omega) (by simp only [len_tS, List.length_cons, List.length_append, List.length_nil]; omega),
    d_nodig hy,
    d_small (by simp only [len_tS, List.length_cons, List.length_append, List.length_nil]; omega),
    d_size (by simp only [len_tS, List.length_cons, List.length_append, List.length_nil]; omega),
    d_small (by simp only [len_tS, List.length_cons, List.length_append, List.length_nil]; omega),
    d_addr (by omega),
    d_add (List.cons_ne_nil _ _) (List.cons_ne_nil _ _) (by simp only [len_tS, List.length_cons, List.length_append, List.length_nil]; omega),
    d_add (List.cons_ne_nil _ _) (List.cons_ne_nil _ _) (by simp only [len_tS, List.length_cons, List.length_append, List.length_nil]; omega),
    d_addr (by omega),
    d_addr (by omega),
    rfl,
    d_join (by simp only [len_tS, List.length_cons, List.length_append, List.length_nil]; omega),
    d_addr (by omega),
    hn,
    (by rw [hi]; exact hn),
    d_diffS (by omega),
    d_diffS (by omega),
    d_diffR (by omega),
    d_diffS (by omega),
    d_diffS (by omega),
    d_diffR (by omega),
    d_txt (by simp only [len_tS, List.length_cons, List.length_append, List.length_nil]; omega) hi,
    rfl,
    rfl,
    d_le (by omega),
    d_le (by omega),
    d_small (by simp only [len_tS, List.length_cons, List.length_append, List.length_nil]; omega),
    d_size (by simp only [len_tS, List.length_cons, List.length_append, List.length_nil]; omega),
    d_small (by simp only [len_tS, List.length_cons, List.length_append, List.length_nil]; omega),
    d_addr (by omega),
    d_add (List.cons_ne_nil _ _) (List.cons_ne_nil _ _) (by simp only [len_tS, List.length_cons, List.length_append, List.length_nil]; omega), trivial⟩
theorem ok_BZE {w : World} {f₁ f₂ f₃ : Bool} {F : FrD} {yL b t : Nat} (hi : PySem.intText? (tS [48]) = some 0) (hn : (Dsc.repr 0).P) (hk : F.k 13 < t) : AllP (c_BZE w f₁ f₂ f₃ F b t) := by
  have hl : (t + 38) ≤ (lpT true (48 :: []) (List.isEmpty ([] : List Nat)) (t + 38) (t + 30) (t + 36)).1 := lpT_ge ..
  exact ⟨d_addr (by omega),
    d_addr (by omega),
    d_addr (by omega),
    d_addr (by omega),
    d_addr (by omega),
    d_addr (by omega),
    d_join (by simp only [len_tS, List.length_cons, List.length_append, List.length_nil]; omega),
    d_addr (by omega),
    hn,
    (by rw [hi]; exact hn),
    d_diffS (by omega),
    d_diffS (by omega),
    d_diffR (by omega),
    d_diffS (by omega),
    d_diffS (by omega),
    d_diffR (by omega),
    d_txt (by simp only [len_tS, List.length_cons, List.length_append, List.length_nil]; omega) hi,
    rfl,
    (by apply Eq.symm; exact List.append_nil _),
    d_le (by omega),
    d_le (by omega),
    d_addr (by omega), trivial⟩
theorem ok_APE {w : World} {f₁ f₂ f₃ : Bool} {F : FrD} {yL b t : Nat} {x : Nat} {r : List Nat} (hr : r.length ≤ 40) (hkk : F.kk > 0) (hi : PySem.intText? (tS (48 :: x :: r)) = some F.n) (hn : (Dsc.repr F.n).P) (hk : F.k 13 < t) : AllP (c_APE w f₁ f₂ f₃ F x r b t) := by
  have hl : (t + 38) ≤ (lpT true (48 :: (x :: r)) (List.isEmpty ([] : List Nat)) (t + 38) (t + 30) (t + 36)).1 := lpT_ge ..
  exact ⟨rfl,
    d_fmt (by simp only [len_tS, List.length_cons, List.length_append, List.length_nil]; omega) (by simp only [len_tS, List.length_cons, List.length_append, List.length_nil]; omega),
    d_small (by simp only [len_tS, List.length_cons, List.length_append, List.length_nil]; omega),
    d_addr (by omega),
    d_add (List.cons_ne_nil _ _) (List.cons_ne_nil _ _) (by simp only [len_tS, List.length_cons, List.length_append, List.length_nil]; omega),
    rfl,
    d_fmt (by simp only [len_tS, List.length_cons, List.length_append, List.length_nil]; omega) (by simp only [len_tS, List.length_cons, List.length_append, List.length_nil]; omega),
    d_small (by simp only [len_tS, List.length_cons, List.length_append, List.length_nil]; omega),
    d_addr (by omega),
    d_add (List.cons_ne_nil _ _) (List.cons_ne_nil _ _) (by simp only [len_tS, List.length_cons, List.length_append, List.length_nil]; omega),
    rfl,
    d_fmt (by simp only [len_tS, List.length_cons, List.length_append, List.length_nil]; omega) (by simp only [len_tS, List.length_cons, List.length_append, List.length_nil]; omega),
    d_small (by simp only [len_tS, List.length_cons, List.length_append, List.length_nil]; omega),
    d_addr (by omega),
    d_add (List.cons_ne_nil _ _) (List.cons_ne_nil _ _) (by simp only [len_tS, List.length_cons, List.length_append, List.length_nil]; omega),
    d_add (List.cons_ne_nil _ _) (List.cons_ne_nil _ _) (by simp only [len_tS, List.length_cons, List.length_append, List.length_nil]; omega),
    d_add (List.cons_ne_nil _ _) (List.cons_ne_nil _ _) (by simp only [len_tS, List.length_cons, List.length_append, List.length_nil]; omega),
    d_addr (by omega),
    d_diffS (by omega),
    d_diffR (by omega),
    d_gt hkk,
    d_addr (by omega),
    d_addr (by omega),
    rfl,
    d_add (List.cons_ne_nil _ _) (List.cons_ne_nil _ _) (by simp only [len_tS, List.length_cons, List.length_append, List.length_nil]; omega),
    d_join (by simp only [len_tS, List.length_cons, List.length_append, List.length_nil]; omega),
    d_small (by simp only [len_tS, List.length_cons, List.length_append, List.length_nil]; omega),
    d_addr (by omega),
    (by rw [hi]; rfl),
    hn,
    (by rw [hi]; exact hn),
    rfl,
    d_diffS (by omega),
    d_diffS (by omega),
    d_diffR (by omega),
    d_diffS (by omega),
    d_diffS (by omega),
    d_diffR (by omega),
    d_str (by simp only [len_tS, List.length_cons, List.length_append, List.length_nil]; omega),
    d_str (by simp only [len_tS, List.length_cons, List.length_append, List.length_nil]; omega),
    d_txt (by simp only [len_tS, List.length_cons, List.length_append, List.length_nil]; omega) hi,
    d_addr (by omega),
    d_ne2,
    rfl,
    (by apply Eq.symm; exact List.append_nil _),
    d_le (by omega),
    d_le (by omega),
    d_small (by simp only [len_tS, List.length_cons, List.length_append, List.length_nil]; omega),
    d_size (by simp only [len_tS, List.length_cons, List.length_append, List.length_nil]; omega),
    d_small (by simp only [len_tS, List.length_cons, List.length_append, List.length_nil]; omega),
    d_addr (by omega),
    d_add (List.cons_ne_nil _ _) (List.cons_ne_nil _ _) (by simp only [len_tS, List.length_cons, List.length_append, List.length_nil]; omega), trivial⟩
theorem ok_AHE {w : World} {f₁ f₂ f₃ : Bool} {F : FrD} {yL b t : Nat} {x : Nat} {r : List Nat} (hr : r.length ≤ 40) (hx : Unicode.isDigit x = true) (hx42 : x ≠ 42) (hx48 : x ≠ 48) (hi : PySem.intText? (tS (x :: r)) = some F.n) (hn : (Dsc.repr F.n).P) (hk : F.k 13 < t) : AllP (c_AHE w f₁ f₂ f₃ F x r b t) := by
  have hl : (t + 38) ≤ (lpT true (x :: r) (List.isEmpty ([] : List Nat)) (t + 38) (t + 30) (t + 36)).1 := lpT_ge ..
  exact ⟨rfl,
    d_fmt (by simp only [len_tS, List.length_cons, List.length_append, List.length_nil]; omega) (by simp only [len_tS, List.length_cons, List.length_append, List.length_nil]; omega),
    d_small (by simp only [len_tS, List.length_cons, List.length_append, List.length_nil]; omega),
    d_addr (by omega),
    d_add (List.cons_ne_nil _ _) (List.cons_ne_nil _ _) (by simp only [len_tS, List.length_cons, List.length_append, List.length_nil]; omega),
    rfl,
    d_fmt (by simp only [len_tS, List.length_cons, List.length_append, List.length_nil]; omega) (by simp only [len_tS, List.length_cons, List.length_append, List.length_nil]; omega),
    d_small (by simp only [len_tS, List.length_cons, List.length_append, List.length_nil]; omega),
    d_addr (by omega),
    d_add (List.cons_ne_nil _ _) (List.cons_ne_nil _ _) (by simp only [len_tS, List.length_cons, List.length_append, List.length_nil]; omega),
    rfl,
    d_fmt (by simp only [len_tS, List.length_cons, List.length_append, List.length_nil]; omega) (by simp only [len_tS, List.length_cons, List.length_append, List.length_nil]; omega),
    d_ne1 hx42,
    d_small (by simp only [len_tS, List.length_cons, List.length_append, List.length_nil]; omega),
    d_addr (by omega),
    d_add (List.cons_ne_nil _ _) (List.cons_ne_nil _ _) (by simp only [len_tS, List.length_cons, List.length_append, List.length_nil]; omega),
    d_add (List.cons_ne_nil _ _) (List.cons_ne_nil _ _) (by simp only [len_tS, List.length_cons, List.length_append, List.length_nil]; omega),
    d_add (List.cons_ne_nil _ _) (List.cons_ne_nil _ _) (by simp only [len_tS, List.length_cons, List.length_append, List.length_nil]; omega),
    d_addr (by omega),
    d_addr (by omega),
    d_addr (by omega),
    rfl,
    d_add (List.cons_ne_nil _ _) (List.cons_ne_nil _ _) (by simp only [len_tS, List.length_cons, List.length_append, List.length_nil]; omega),
    d_join (by simp only [len_tS, List.length_cons, List.length_append, List.length_nil]; omega),
    d_small (by simp only [len_tS, List.length_cons, List.length_append, List.length_nil]; omega),
    d_addr (by omega),
    (by rw [hi]; rfl),
    hn,
    (by rw [hi]; exact hn),
    rfl,
    d_diffS (by omega),
    d_diffS (by omega),
    d_diffR (by omega),
    d_diffS (by omega),
    d_diffS (by omega),
    d_diffR (by omega),
    d_str (by simp only [len_tS, List.length_cons, List.length_append, List.length_nil]; omega),
    d_str (by simp only [len_tS, List.length_cons, List.length_append, List.length_nil]; omega),
    d_txt (by simp only [len_tS, List.length_cons, List.length_append, List.length_nil]; omega) hi,
    d_ne1 hx48,
    rfl,
    (by apply Eq.symm; exact List.append_nil _),
    d_le (by omega),
    d_le (by omega),
    d_dig hx,
    d_small (by simp only [len_tS, List.length_cons, List.length_append, List.length_nil]; omega),
    d_size (by simp only [len_tS, List.length_cons, List.length_append, List.length_nil]; omega),
    d_small (by simp only [len_tS, List.length_cons, List.length_append, List.length_nil]; omega),
    d_addr (by omega),
    d_add (List.cons_ne_nil _ _) (List.cons_ne_nil _ _) (by simp only [len_tS, List.length_cons, List.length_append, List.length_nil]; omega), trivial⟩
theorem ok_AZE {w : World} {f₁ f₂ f₃ : Bool} {F : FrD} {yL b t : Nat} (hi : PySem.intText? (tS [48]) = some 0) (hn : (Dsc.repr 0).P) (hk : F.k 13 < t) : AllP (c_AZE w f₁ f₂ f₃ F b t) := by
  have hl : (t + 38) ≤ (lpT true (48 :: []) (List.isEmpty ([] : List Nat)) (t + 38) (t + 30) (t + 36)).1 := lpT_ge ..
  exact ⟨d_addr (by omega),
    d_addr (by omega),
    d_addr (by omega),
    d_addr (by omega),
    d_addr (by omega),
    d_addr (by omega),
    d_join (by simp only [len_tS, List.length_cons, List.length_append, List.length_nil]; omega),
    d_addr (by omega),
    hn,
    (by rw [hi]; exact hn),
    d_diffS (by omega),
    d_diffS (by omega),
    d_diffR (by omega),
    d_diffS (by omega),
    d_diffS (by omega),
    d_diffR (by omega),
    d_txt (by simp only [len_tS, List.length_cons, List.length_append, List.length_nil]; omega) hi,
    rfl,
    (by apply Eq.symm; exact List.append_nil _),
    d_le (by omega),
    d_le (by omega),
    d_addr (by omega), trivial⟩
end Mine

namespace Mine
structure Inv (H : Heap) (d : Drawn) (os : OsState) (ch news : List (Addr × Obj)) (s : Shared) : Prop where
  mem : Mem H s.heap ch news
  size : 358 ≤ s.heap.objs.size
  bare : AllBare s.gens
  dr : s.drawn = d
  os : s.os = os
theorem Inv.rep {H : Heap} {d : Drawn} {os : OsState} {ch news : List (Addr × Obj)} {s : Shared} (I : Inv H d os ch news s) (w : World) (f₁ f₂ f₃ : Bool) (fig beh hs : List Nat) :
    Rep (VT w f₁ f₂ f₃ H s.gens d os fig beh) ⟨s.heap.objs.size - 358, s.toks, news, 358, 0, hs, [], ch, []⟩ s :=
  ⟨I.mem, by show _ = _ - 358 + 358; have := I.size; omega, (List.append_nil _).symm, I.dr, rfl, I.os⟩
theorem sub_of {α : Type} : ∀ (l : List α) (ks : List Nat) (ps : List α), ks.Pairwise (· < ·) → ks.map (l[·]?) = ps.map some → ps.Sublist l
  | [], ks, ps, _, h => by
    cases ks with
    | nil => cases ps with
      | nil => exact List.Sublist.refl _
      | cons => cases h
    | cons k ks => cases ps with
      | nil => cases h
      | cons p ps =>
        rw [List.map_cons, List.map_cons] at h
        injection h with h _
        simp at h
  | a :: l, ks, ps, hp, h => by
    have shift : ∀ (ks : List Nat) (ps : List α), (∀ k ∈ ks, 0 < k) → ks.Pairwise (· < ·) → ks.map ((a :: l)[·]?) = ps.map some → ps.Sublist l := by
      intro ks ps h0 hp h
      refine sub_of l (ks.map (· - 1)) ps ?_ ?_
      · rw [List.pairwise_map]
        refine hp.imp_of_mem fun {x y} hx hy z => ?_
        have := h0 x hx
        omega
      · rw [← h, List.map_map]
        refine List.map_congr_left fun k hk => ?_
        have := h0 k hk
        obtain ⟨k', rfl⟩ : ∃ k', k = k' + 1 := ⟨k - 1, by omega⟩
        simp
    cases ks with
    | nil => cases ps with
      | nil => exact List.nil_sublist _
      | cons => cases h
    | cons k ks =>
      cases ps with
      | nil => cases h
      | cons p ps =>
        have hlt : ∀ x ∈ ks, k < x := (List.pairwise_cons.mp hp).1
        cases k with
        | zero =>
          rw [List.map_cons, List.map_cons] at h
          injection h with h1 h2
          simp at h1
          subst h1
          exact (shift ks ps hlt (List.pairwise_cons.mp hp).2 h2).cons_cons _
        | succ k =>
          refine (shift ((k + 1) :: ks) (p :: ps) (fun x hx => ?_) hp h).cons _
          rcases List.mem_cons.mp hx with rfl | hx
          · exact Nat.succ_pos _
          · exact Nat.lt_of_le_of_lt (Nat.zero_le _) (hlt x hx)
theorem Inv.of {V : Cfg} {st : St} {s' : Shared} {ks : List Nat} {ps : List (Addr × Obj)} {b t m i : Nat} {ch : List (Addr × Obj)} {gl : List GenState} (D : Rep V st s') (hk : ks.Pairwise (· < ·))
    (hn : ks.map (st.news[·]?) = ps.map some) (hm : (st.b, st.t, st.m, st.i, st.ch, st.gl) = (b, t, m, i, ch, gl)) (hb : 358 ≤ b + m) (hv : AllBare V.g) (hg : ∀ x ∈ gl, x.bare = true) :
    Inv V.h₀ V.d V.os ch ps s' ∧ s'.toks = t + i ∧ s'.heap.objs.size = b + m := by
  injection hm with m1 hm
  injection hm with m2 hm
  injection hm with m3 hm
  injection hm with m4 hm
  injection hm with m5 m6
  have hz : s'.heap.objs.size = b + m := by rw [D.size, m1, m3]
  refine ⟨⟨?_, by rw [hz]; exact hb, ?_, D.dr, D.os⟩, by rw [D.tk, m2, m4], hz⟩
  · rw [← m5]
    exact mem_sub D.mem (sub_of _ _ _ hk hn)
  · intro x hx
    have hx' : x ∈ s'.gens.toList := by simpa using hx
    rw [D.gens, m6] at hx'
    rcases List.mem_append.mp hx' with hx' | hx'
    · exact hv x (by simpa using hx')
    · exact hg x hx'
end Mine

namespace Mine
/-- what a rest behind the figures is -/
noncomputable def GoodB (v : Value) : Prop := ∃ beh tk, v = .str (tS beh) tk ∧ (beh = [] ∨ ∃ y ys, beh = y :: ys ∧ Unicode.isDigit y = false ∧ ys.length ≤ 10)
structure GoodF (F : FrD) (t : Nat) : Prop where
  tok : F.k 13 < t
  dig : ∀ x ∈ F.fig, Unicode.isDigit x = true
  len : F.fig.length ≤ 40
  int : PySem.intText? (tS F.fig) = some F.n
  rep : (Dsc.repr F.n).P
  shape : (∃ x r, F.fig = 48 :: x :: r ∧ F.kk > 0) ∨ (∃ x r, F.fig = x :: r ∧ x ≠ 48 ∧ F.kk = 0) ∨ (F.fig = [48] ∧ F.kk = 0 ∧ F.n = 0)
theorem GoodF.to {F F' : FrD} {t t' : Nat} (G : GoodF F t) (h1 : F'.k 13 = F.k 13) (h2 : F'.fig = F.fig) (h3 : F'.n = F.n) (h4 : F'.kk = F.kk) (ht : t ≤ t') : GoodF F' t' :=
  ⟨by rw [h1]; exact Nat.lt_of_lt_of_le G.tok ht, by rw [h2]; exact G.dig, by rw [h2]; exact G.len, by rw [h2, h3]; exact G.int, by rw [h3]; exact G.rep, by rw [h2, h3, h4]; exact G.shape⟩
theorem not42 {x : Nat} (h : Unicode.isDigit x = true) : x ≠ 42 := by
  intro e
  subst e
  exact absurd h (by decide +kernel)

section
variable {w : World} {f₁ f₂ f₃ : Bool} {H : Heap} {d : Drawn} {os : OsState} {L IT : Nat} {P : Result → Shared → Prop}
theorem toVT (hK : KF (wF w f₁ f₂ f₃) H) {g : Array GenState} {fig beh : List Nat} (hd : ∀ x ∈ fig, Unicode.isDigit x = true) (hb : NoDigit beh) (hl : fig.length ≤ 1000) (hbl : beh.length ≤ 1000) : (VT w f₁ f₂ f₃ H g d os fig beh).Ok :=
  smW_ok hK hd hb (by omega) (by omega)

/-- a turn's body, by its run -/
theorem body_of {fig beh : List Nat} {v : Value} {s : Shared} {ch ch' news ps : List (Addr × Obj)} {hs : List Nat} {ks : List Nat} {cs : List Dsc} {c' : Code} {b t m i : Nat} {gl : List GenState}
    (O : (VT w f₁ f₂ f₃ H s.gens d os fig beh).Ok) (I : Inv H d os ch news s)
    (ht : ∀ sk, (innerRun w f₁ f₂ f₃ H s.gens d os fig beh L IT v ⟨s.heap.objs.size - 358, s.toks, news, 358, 0, hs, [], ch, []⟩ sk).sum ks = some (.again c', ps.map some, (b, t, m, i, ch', gl), [], cs, (innerRun w f₁ f₂ f₃ H s.gens d os fig beh L IT v ⟨s.heap.objs.size - 358, s.toks, news, 358, 0, hs, [], ch, []⟩ sk).rt))
    (hc : AllP cs) (hks : ks.Pairwise (· < ·)) (hb : 358 ≤ b + m) (hg : ∀ x ∈ gl, x.bare = true) (hq : c'.quiet = true)
    (next : ∀ s', Inv H d os ch' ps s' → s'.toks = t + i → codeAny (model PP (wF w f₁ f₂ f₃)) (AI (KT w f₁ f₂ f₃) L) c' P s') :
    PhW PP (wF w f₁ f₂ f₃) (AI (KT w f₁ f₂ f₃) L) (innerC (KT w f₁ f₂ f₃) L IT) (postC PP (wF w f₁ f₂ f₃) (AI (KT w f₁ f₂ f₃) L) P) (postE P)
      (forBodyPh (AI (KT w f₁ f₂ f₃) L) (innerIn (KT w f₁ f₂ f₃)).1 (.ref IT) (innerIn (KT w f₁ f₂ f₃)).2.2.1 (innerIn (KT w f₁ f₂ f₃)).2.2.2.1 (lawEnv (KT w f₁ f₂ f₃) L) v) s := by
  refine runPh_sound (V := VT w f₁ f₂ f₃ H s.gens d os fig beh) (R := run (VT w f₁ f₂ f₃ H s.gens d os fig beh) 8000) (run_ext O.ex 8000) (run_sound O 8000) _ _ _ _ _ _ s (fun sk => ?_) (I.rep w f₁ f₂ f₃ fig beh hs)
  refine fine_of_sum (ht sk) hc fun st s' D' hn hm => ?_
  obtain ⟨I', tk, _⟩ := Inv.of D' hks hn hm hb I.bare hg
  exact ⟨hq, next s' I' tk⟩

theorem innerQ {K : Frag} : (innerC K L IT).quiet = true := by rfl

/-- one inner turn, all names bound -/
theorem turnB {F : FrD} {bk : Value} {q₁ q₂ : Nat} {p₁ p₂ p₃ p₄ : Addr × Obj} {v : Value} {s : Shared} (hK : KF (wF w f₁ f₂ f₃) H) (hL : 358 ≤ L)
    (I : Inv H d os (tabs q₁ q₂) [p₁, p₂, p₃, p₄, (L, lawFr F bk)] s) (G : GoodF F s.toks) (hv : GoodB v)
    (next : ∀ s' F', Inv H d os (tabs q₁ q₂) [p₁, p₂, p₃, p₄, (L, lawFr F' bk)] s' → GoodF F' s'.toks → F'.fig = F.fig → codeAny (model PP (wF w f₁ f₂ f₃)) (AI (KT w f₁ f₂ f₃) L) (innerC (KT w f₁ f₂ f₃) L IT) P s') :
    PhW PP (wF w f₁ f₂ f₃) (AI (KT w f₁ f₂ f₃) L) (innerC (KT w f₁ f₂ f₃) L IT) (postC PP (wF w f₁ f₂ f₃) (AI (KT w f₁ f₂ f₃) L) P) (postE P)
      (forBodyPh (AI (KT w f₁ f₂ f₃) L) (innerIn (KT w f₁ f₂ f₃)).1 (.ref IT) (innerIn (KT w f₁ f₂ f₃)).2.2.1 (innerIn (KT w f₁ f₂ f₃)).2.2.2.1 (lawEnv (KT w f₁ f₂ f₃) L) v) s := by
  obtain ⟨yL, rfl⟩ : ∃ y, L = y + 358 := ⟨L - 358, by omega⟩
  obtain ⟨beh, tb, rfl, hbeh⟩ := hv
  have bare2 : ∀ x ∈ [GenState.finished, GenState.finished], x.bare = true := by
    intro x hx
    rcases List.mem_cons.mp hx with rfl | hx
    · rfl
    · rw [List.mem_singleton.mp hx]; rfl
  have hsz := I.size
  obtain ⟨fh, fk, sc, sec, told, fx, fn, fkk, fig, fbeh, rest, wrong⟩ := F
  rcases G.shape with ⟨x, r, hf, hkk⟩ | ⟨x, r, hf, hx, hkk⟩ | ⟨hf, hkk, hn⟩
  · dsimp only at hf hkk
    subst hf
    have hr : r.length ≤ 40 := by have := G.len; simp only [List.length_cons] at this; omega
    rcases hbeh with rfl | ⟨y, ys, rfl, hy, hyl⟩
    · refine body_of (fig := 48 :: x :: r) (beh := []) (hs := h_BPE) (ks := [164, 165, 166, 167, 168]) (ps := [p₁, p₂, p₃, p₄, (yL + 358, lawFr _ bk)]) (toVT hK G.dig trivial (by have := G.len; dsimp only at this; omega) (by decide)) I
        (fun sk => t_BPE w f₁ f₂ f₃ H s.gens d os ⟨fh, fk, sc, sec, told, fx, fn, fkk, 48 :: x :: r, fbeh, rest, wrong⟩ x r yL IT q₁ q₂ bk (s.heap.objs.size - 358) s.toks tb p₁ p₂ p₃ p₄ sk)
        (ok_BPE (yL := yL) hr hkk G.int G.rep G.tok) (by decide) (by omega) bare2 innerQ fun s' I' tk => ?_
      exact next s' _ I' (G.to rfl rfl rfl rfl (by rw [tk]; exact Nat.le_trans (Nat.le_trans (Nat.le_add_right _ _) (lpT_ge ..)) (Nat.le_add_right _ _))) rfl
    · refine body_of (fig := 48 :: x :: r) (beh := y :: ys) (hs := h_BPY) (ks := [164, 165, 166, 167, 168]) (ps := [p₁, p₂, p₃, p₄, (yL + 358, lawFr _ bk)]) (toVT hK G.dig hy (by have := G.len; dsimp only at this; omega) (by simp only [List.length_cons]; omega)) I
        (fun sk => t_BPY w f₁ f₂ f₃ H s.gens d os ⟨fh, fk, sc, sec, told, fx, fn, fkk, 48 :: x :: r, fbeh, rest, wrong⟩ x r y ys yL IT q₁ q₂ bk (s.heap.objs.size - 358) s.toks tb p₁ p₂ p₃ p₄ sk)
        (ok_BPY (yL := yL) hr hkk hyl hy G.int G.rep G.tok) (by decide) (by omega) bare2 innerQ fun s' I' tk => ?_
      exact next s' _ I' (G.to rfl rfl rfl rfl (by rw [tk]; exact Nat.le_trans (Nat.le_trans (Nat.le_add_right _ _) (lpT_ge ..)) (Nat.le_add_right _ _))) rfl
  · dsimp only at hf hkk
    subst hf hkk
    have hr : r.length ≤ 40 := by have := G.len; simp only [List.length_cons] at this; omega
    have hdx : Unicode.isDigit x = true := G.dig x (List.mem_cons_self ..)
    rcases hbeh with rfl | ⟨y, ys, rfl, hy, hyl⟩
    · refine body_of (fig := x :: r) (beh := []) (hs := h_BHE) (ks := [148, 149, 150, 151, 152]) (ps := [p₁, p₂, p₃, p₄, (yL + 358, lawFr _ bk)]) (toVT hK G.dig trivial (by have := G.len; dsimp only at this; omega) (by decide)) I
        (fun sk => t_BHE w f₁ f₂ f₃ H s.gens d os ⟨fh, fk, sc, sec, told, fx, fn, 0, x :: r, fbeh, rest, wrong⟩ x r yL IT q₁ q₂ bk (s.heap.objs.size - 358) s.toks tb p₁ p₂ p₃ p₄ sk)
        (ok_BHE (yL := yL) hr hdx (not42 hdx) hx G.int G.rep G.tok) (by decide) (by omega) bare2 innerQ fun s' I' tk => ?_
      exact next s' _ I' (G.to rfl rfl rfl rfl (by rw [tk]; exact Nat.le_trans (Nat.le_trans (Nat.le_add_right _ _) (lpT_ge ..)) (Nat.le_add_right _ _))) rfl
    · refine body_of (fig := x :: r) (beh := y :: ys) (hs := h_BHY) (ks := [148, 149, 150, 151, 152]) (ps := [p₁, p₂, p₃, p₄, (yL + 358, lawFr _ bk)]) (toVT hK G.dig hy (by have := G.len; dsimp only at this; omega) (by simp only [List.length_cons]; omega)) I
        (fun sk => t_BHY w f₁ f₂ f₃ H s.gens d os ⟨fh, fk, sc, sec, told, fx, fn, 0, x :: r, fbeh, rest, wrong⟩ x r y ys yL IT q₁ q₂ bk (s.heap.objs.size - 358) s.toks tb p₁ p₂ p₃ p₄ sk)
        (ok_BHY (yL := yL) hr hdx (not42 hdx) hx hyl hy G.int G.rep G.tok) (by decide) (by omega) bare2 innerQ fun s' I' tk => ?_
      exact next s' _ I' (G.to rfl rfl rfl rfl (by rw [tk]; exact Nat.le_trans (Nat.le_trans (Nat.le_add_right _ _) (lpT_ge ..)) (Nat.le_add_right _ _))) rfl
  · dsimp only at hf hkk hn
    subst hf hkk hn
    rcases hbeh with rfl | ⟨y, ys, rfl, hy, hyl⟩
    · refine body_of (fig := [48]) (beh := []) (hs := h_BZE) (ks := [148, 149, 150, 151, 152]) (ps := [p₁, p₂, p₃, p₄, (yL + 358, lawFr _ bk)]) (toVT hK G.dig trivial (by decide) (by decide)) I
        (fun sk => t_BZE w f₁ f₂ f₃ H s.gens d os ⟨fh, fk, sc, sec, told, fx, 0, 0, [48], fbeh, rest, wrong⟩ yL IT q₁ q₂ bk (s.heap.objs.size - 358) s.toks tb p₁ p₂ p₃ p₄ sk)
        (ok_BZE (yL := yL) G.int G.rep G.tok) (by decide) (by omega) bare2 innerQ fun s' I' tk => ?_
      exact next s' _ I' (G.to rfl rfl rfl rfl (by rw [tk]; exact Nat.le_trans (Nat.le_trans (Nat.le_add_right _ _) (lpT_ge ..)) (Nat.le_add_right _ _))) rfl
    · refine body_of (fig := [48]) (beh := y :: ys) (hs := h_BZY) (ks := [148, 149, 150, 151, 152]) (ps := [p₁, p₂, p₃, p₄, (yL + 358, lawFr _ bk)]) (toVT hK G.dig hy (by decide) (by simp only [List.length_cons]; omega)) I
        (fun sk => t_BZY w f₁ f₂ f₃ H s.gens d os ⟨fh, fk, sc, sec, told, fx, 0, 0, [48], fbeh, rest, wrong⟩ y ys yL IT q₁ q₂ bk (s.heap.objs.size - 358) s.toks tb p₁ p₂ p₃ p₄ sk)
        (ok_BZY (yL := yL) hyl hy G.int G.rep G.tok) (by decide) (by omega) bare2 innerQ fun s' I' tk => ?_
      exact next s' _ I' (G.to rfl rfl rfl rfl (by rw [tk]; exact Nat.le_trans (Nat.le_trans (Nat.le_add_right _ _) (lpT_ge ..)) (Nat.le_add_right _ _))) rfl
end
end Mine

namespace Mine
theorem fine_of_sumE {V : Cfg} {α : Type} {o : Out α} {ks : List Nat} {k : Nat} {a : α} {l : List (Option (Addr × Obj))} {m : Nat × Nat × Nat × Nat × List (Addr × Obj) × List GenState} {hs : List Nat} {ps : List Dsc} {L : Addr} {ob : Obj}
    (h : o.sumE ks k = some (a, l, m, hs, ps, o.rt, some (L, ob))) (hp : AllP ps) {Q : α → Shared → Prop} {E : Value → Shared → Prop}
    (hq : ∀ st s o', Rep V st s → ks.map (st.news[·]?) = l → st.news[k]? = some (L, o') → eraseBk o' = ob → (st.b, st.t, st.m, st.i, st.ch, st.gl) = m → Q a s) : o.Fine V Q E := by
  cases o with
  | stop => cases h
  | err => cases h
  | yld => cases h
  | ok a' st =>
    unfold Out.sumE at h
    injection h with h
    injection h with h1 h
    injection h with h2 h
    injection h with h3 h
    injection h with h4 h
    injection h with h5 h
    injection h with h6 h7
    subst h1
    refine ⟨eqOk_of h6 (h5 ▸ hp), fun s D => ?_⟩
    cases q : st.news[k]? with
    | none => rw [q] at h7; cases h7
    | some p =>
      rw [q] at h7
      injection h7 with h7
      injection h7 with h7 h8
      obtain ⟨a₁, o₁⟩ := p
      dsimp only at h7 h8
      subst h7
      exact hq st s o₁ D h2 q h8 h3
theorem eraseBk_inv {o : Obj} {F : FrD} (h : eraseBk o = lawFr F .none) : ∃ bk, o = lawFr F bk := by
  obtain ⟨c, dd, x, ⟨l⟩⟩ := o
  unfold eraseBk at h
  dsimp only at h
  split at h
  · rename_i a₁ a₂ a₃ bk a₅ a₆ a₇
    refine ⟨bk, ?_⟩
    unfold lawFr at h ⊢
    injection h with h1 h2 h3 h4
    injection h4 with h4
    injection h4 with e1 h4
    injection h4 with e2 h4
    injection h4 with e3 h4
    injection h4 with _ h4
    injection h4 with e5 h4
    injection h4 with e6 h4
    injection h4 with e7 _
    subst e1 e2 e3 e5 e6 e7 h1 h2 h3
    rfl
  · unfold lawFr at h
    injection h with h1
    cases h1
section
variable {w : World} {f₁ f₂ f₃ : Bool} {H : Heap} {d : Drawn} {os : OsState} {L IT : Nat} {P : Result → Shared → Prop}
theorem body_ofE {fig beh : List Nat} {v : Value} {s : Shared} {ch ch' news ps : List (Addr × Obj)} {hs : List Nat} {ks : List Nat} {k : Nat} {F' : FrD} {cs : List Dsc} {c' : Code} {b t m i : Nat} {gl : List GenState}
    (O : (VT w f₁ f₂ f₃ H s.gens d os fig beh).Ok) (I : Inv H d os ch news s)
    (ht : ∀ sk, (innerRun w f₁ f₂ f₃ H s.gens d os fig beh L IT v ⟨s.heap.objs.size - 358, s.toks, news, 358, 0, hs, [], ch, []⟩ sk).sumE ks k = some (.again c', ps.map some, (b, t, m, i, ch', gl), [], cs, (innerRun w f₁ f₂ f₃ H s.gens d os fig beh L IT v ⟨s.heap.objs.size - 358, s.toks, news, 358, 0, hs, [], ch, []⟩ sk).rt, some (L, lawFr F' .none)))
    (hc : AllP cs) (hks : (ks ++ [k]).Pairwise (· < ·)) (hb : 358 ≤ b + m) (hg : ∀ x ∈ gl, x.bare = true) (hq : c'.quiet = true)
    (next : ∀ s' bk, Inv H d os ch' (ps ++ [(L, lawFr F' bk)]) s' → s'.toks = t + i → codeAny (model PP (wF w f₁ f₂ f₃)) (AI (KT w f₁ f₂ f₃) L) c' P s') :
    PhW PP (wF w f₁ f₂ f₃) (AI (KT w f₁ f₂ f₃) L) (innerC (KT w f₁ f₂ f₃) L IT) (postC PP (wF w f₁ f₂ f₃) (AI (KT w f₁ f₂ f₃) L) P) (postE P)
      (forBodyPh (AI (KT w f₁ f₂ f₃) L) (innerIn (KT w f₁ f₂ f₃)).1 (.ref IT) (innerIn (KT w f₁ f₂ f₃)).2.2.1 (innerIn (KT w f₁ f₂ f₃)).2.2.2.1 (lawEnv (KT w f₁ f₂ f₃) L) v) s := by
  refine runPh_sound (V := VT w f₁ f₂ f₃ H s.gens d os fig beh) (R := run (VT w f₁ f₂ f₃ H s.gens d os fig beh) 8000) (run_ext O.ex 8000) (run_sound O 8000) _ _ _ _ _ _ s (fun sk => ?_) (I.rep w f₁ f₂ f₃ fig beh hs)
  refine fine_of_sumE (ht sk) hc fun st s' o' D' hn hk he hm => ?_
  obtain ⟨bk, rfl⟩ := eraseBk_inv he
  obtain ⟨I', tk, _⟩ := Inv.of (ps := ps ++ [(L, lawFr F' bk)]) D' hks (by rw [List.map_append, List.map_append, hn, List.map_singleton, List.map_singleton, hk]) hm hb I.bare hg
  exact ⟨hq, next s' bk I' tk⟩
/-- the very first inner turn -/
theorem turnA {F : FrD} {p₁ p₂ p₃ p₄ : Addr × Obj} {tb : Nat} {s : Shared} (hK : KF (wF w f₁ f₂ f₃) H) (hL : 358 ≤ L)
    (I : Inv H d os tabs0 [p₁, p₂, p₃, p₄, (L, lawFrA F)] s) (G : GoodF F s.toks)
    (next : ∀ s' F' bk q₁ q₂, Inv H d os (tabs q₁ q₂) [p₁, p₂, p₃, p₄, (L, lawFr F' bk)] s' → GoodF F' s'.toks → F'.fig = F.fig → codeAny (model PP (wF w f₁ f₂ f₃)) (AI (KT w f₁ f₂ f₃) L) (innerC (KT w f₁ f₂ f₃) L IT) P s') :
    PhW PP (wF w f₁ f₂ f₃) (AI (KT w f₁ f₂ f₃) L) (innerC (KT w f₁ f₂ f₃) L IT) (postC PP (wF w f₁ f₂ f₃) (AI (KT w f₁ f₂ f₃) L) P) (postE P)
      (forBodyPh (AI (KT w f₁ f₂ f₃) L) (innerIn (KT w f₁ f₂ f₃)).1 (.ref IT) (innerIn (KT w f₁ f₂ f₃)).2.2.1 (innerIn (KT w f₁ f₂ f₃)).2.2.2.1 (lawEnv (KT w f₁ f₂ f₃) L) (.str (tS []) tb)) s := by
  obtain ⟨yL, rfl⟩ : ∃ y, L = y + 358 := ⟨L - 358, by omega⟩
  have bare2 : ∀ x ∈ [GenState.finished, GenState.finished], x.bare = true := by
    intro x hx
    rcases List.mem_cons.mp hx with rfl | hx
    · rfl
    · rw [List.mem_singleton.mp hx]; rfl
  have hsz := I.size
  have tb2 : ∀ a c : Nat, [(147, X.tableObj #[.int 41 0, .int 23 0, .ref (a + 358)]), (155, X.tableObj #[.int 45 0, .int 19 0, .ref (c + 358)])] = tabs a c := fun _ _ => rfl
  obtain ⟨fh, fk, sc, sec, told, fx, fn, fkk, fig, fbeh, rest, wrong⟩ := F
  rcases G.shape with ⟨x, r, hf, hkk⟩ | ⟨x, r, hf, hx, hkk⟩ | ⟨hf, hkk, hn⟩
  · dsimp only at hf hkk
    subst hf
    have hr : r.length ≤ 40 := by have := G.len; simp only [List.length_cons] at this; omega
    refine body_ofE (fig := 48 :: x :: r) (beh := []) (hs := h_APE) (ks := [170, 171, 172, 173]) (k := 174) (ps := [p₁, p₂, p₃, p₄]) (toVT hK G.dig trivial (by have := G.len; dsimp only at this; omega) (by decide)) I
      (fun sk => t_APE w f₁ f₂ f₃ H s.gens d os ⟨fh, fk, sc, sec, told, fx, fn, fkk, 48 :: x :: r, fbeh, rest, wrong⟩ x r yL IT (s.heap.objs.size - 358) s.toks tb p₁ p₂ p₃ p₄ sk)
      (ok_APE (yL := yL) hr hkk G.int G.rep G.tok) (by decide) (by omega) bare2 innerQ fun s' bk I' tk => ?_
    exact next s' _ bk (s.heap.objs.size - 358 + (48 :: x :: r).length + 54) (s.heap.objs.size - 358 + (48 :: x :: r).length + 70) I' (G.to rfl rfl rfl rfl (by rw [tk]; exact Nat.le_trans (Nat.le_trans (Nat.le_add_right _ _) (lpT_ge ..)) (Nat.le_add_right _ _))) rfl
  · dsimp only at hf hkk
    subst hf hkk
    have hr : r.length ≤ 40 := by have := G.len; simp only [List.length_cons] at this; omega
    have hdx : Unicode.isDigit x = true := G.dig x (List.mem_cons_self ..)
    refine body_ofE (fig := x :: r) (beh := []) (hs := h_AHE) (ks := [154, 155, 156, 157]) (k := 158) (ps := [p₁, p₂, p₃, p₄]) (toVT hK G.dig trivial (by have := G.len; dsimp only at this; omega) (by decide)) I
      (fun sk => t_AHE w f₁ f₂ f₃ H s.gens d os ⟨fh, fk, sc, sec, told, fx, fn, 0, x :: r, fbeh, rest, wrong⟩ x r yL IT (s.heap.objs.size - 358) s.toks tb p₁ p₂ p₃ p₄ sk)
      (ok_AHE (yL := yL) hr hdx (not42 hdx) hx G.int G.rep G.tok) (by decide) (by omega) bare2 innerQ fun s' bk I' tk => ?_
    exact next s' _ bk (s.heap.objs.size - 358 + (x :: r).length + 40) (s.heap.objs.size - 358 + (x :: r).length + 56) I' (G.to rfl rfl rfl rfl (by rw [tk]; exact Nat.le_trans (Nat.le_trans (Nat.le_add_right _ _) (lpT_ge ..)) (Nat.le_add_right _ _))) rfl
  · dsimp only at hf hkk hn
    subst hf hkk hn
    refine body_ofE (fig := [48]) (beh := []) (hs := h_AZE) (ks := [154, 155, 156, 157]) (k := 158) (ps := [p₁, p₂, p₃, p₄]) (toVT hK G.dig trivial (by decide) (by decide)) I
      (fun sk => t_AZE w f₁ f₂ f₃ H s.gens d os ⟨fh, fk, sc, sec, told, fx, 0, 0, [48], fbeh, rest, wrong⟩ yL IT (s.heap.objs.size - 358) s.toks tb p₁ p₂ p₃ p₄ sk)
      (ok_AZE (yL := yL) G.int G.rep G.tok) (by decide) (by omega) bare2 innerQ fun s' bk I' tk => ?_
    exact next s' _ bk (s.heap.objs.size - 358 + [48].length + 40) (s.heap.objs.size - 358 + [48].length + 56) I' (G.to rfl rfl rfl rfl (by rw [tk]; exact Nat.le_trans (Nat.le_trans (Nat.le_add_right _ _) (lpT_ge ..)) (Nat.le_add_right _ _))) rfl
end
end Mine

namespace Mine
theorem innerElse (w : World) (f₁ f₂ f₃ : Bool) : (innerIn (KT w f₁ f₂ f₃)).2.2.2.1 = [] := by kernel_rfl
theorem outerElse (w : World) (f₁ f₂ f₃ : Bool) : (outerIn (KT w f₁ f₂ f₃)).2.2.2.1 = [] := by kernel_rfl
theorem block_nil {prog : Program} {w : World} {A : Around} {env : Env} {l : List Stmt} {P : Result → Shared → Prop} {s : Shared} (hl : l = []) (h : P (.ok .next) s) : codeAny (model prog w) A (.block l env) P s := by
  subst hl
  refine y_code _ _ _ _ _ _ ?_
  show wpOwn (model prog w) A _ ((execs [] env).onRaise _ >>= fun f => pure (PySem.Fin.done f)) _ _ _
  exact wpOwn_bind (own_onRaise (wpOwn_of_wpAny (wpAny_pure (wpOwn_of_wpAny (wpAny_pure h)))))
theorem mem_but {H h h' : Heap} {ch news : List (Addr × Obj)} {a : Addr} {o : Obj} (D : Mem H h ch ((a, o) :: news)) (he : Heap.ExtBut a h h') : Mem H h' ch news := by
  have ha : H.get? a = none := (D.nw (a, o) (List.mem_cons_self ..)).2
  refine ⟨fun b ob e q => he b ob (fun z => by subst z; rw [ha] at e; cases e) (D.keep b ob e q), fun p hp => ?_, D.cd, fun p hp => ?_, ?_⟩
  · obtain ⟨ps, e⟩ := D.oldTable hp
    exact ⟨he _ _ (fun z => by rw [z, ha] at e; cases e) (D.ch p hp).1, (D.ch p hp).2⟩
  · have z := D.nw p (List.mem_cons_of_mem _ hp)
    have hlt := (List.pairwise_cons.mp D.ord).1 p.1 (List.mem_map_of_mem hp)
    exact ⟨he _ _ (fun e => by rw [e] at hlt; exact absurd hlt (Nat.lt_irrefl _)) z.1, z.2⟩
  · exact (List.pairwise_cons.mp D.ord).2
section
variable {w : World} {f₁ f₂ f₃ : Bool} {H : Heap} {d : Drawn} {os : OsState} {L IT LI : Nat} {P : Result → Shared → Prop}
theorem Inv.graft {ch news : List (Addr × Obj)} {a : Addr} {o o' : Obj} {s : Shared} {h' : Heap} (I : Inv H d os ch ((a, o) :: news) s) (hs : h'.get? a = some o') (hb : Heap.SameBut a s.heap h') : Inv H d os ch ((a, o') :: news) { s with heap := h' } :=
  ⟨mem_graft (k := 0) I.mem rfl hs (fun b ob hb' e => (hb.2 b hb').trans e), by show 358 ≤ h'.objs.size; rw [hb.1]; exact I.size, I.bare, I.dr, I.os⟩
theorem Inv.drop {ch news : List (Addr × Obj)} {a : Addr} {o : Obj} {s : Shared} {h' : Heap} (I : Inv H d os ch ((a, o) :: news) s) (hb : Heap.ExtBut a s.heap h') (hz : 358 ≤ h'.objs.size) : Inv H d os ch news { s with heap := h' } :=
  ⟨mem_but I.mem hb, hz, I.bare, I.dr, I.os⟩
theorem Inv.sub {ch news news' : List (Addr × Obj)} {s : Shared} (I : Inv H d os ch news s) (h : news'.Sublist news) : Inv H d os ch news' s := ⟨mem_sub I.mem h, I.size, I.bare, I.dr, I.os⟩
theorem Inv.isList {ch news : List (Addr × Obj)} {a : Addr} {vs : Array Value} {s : Shared} (I : Inv H d os ch news s) (h : (a, lsObj vs) ∈ news) : s.heap.IsList a vs := ⟨_, (I.mem.nw _ h).1, rfl, 0, rfl⟩

/-- the loop over the rests, all names bound -/
theorem innerB {items : Array Value} {bk : Value} {q₁ q₂ : Nat} {p₃ p₄ : Addr × Obj} (hgood : ∀ v ∈ items.toList, GoodB v) (hK : KF (wF w f₁ f₂ f₃) H) (hL : 358 ≤ L) : ∀ (n i : Nat), items.size - i = n → ∀ (s : Shared) (F : FrD) (oIT : Obj),
    Inv H d os (tabs q₁ q₂) [(IT, oIT), (LI, lsObj items), p₃, p₄, (L, lawFr F bk)] s → s.heap.IsListIter IT LI i → GoodF F s.toks →
    (∀ s' F', Inv H d os (tabs q₁ q₂) [p₃, p₄, (L, lawFr F' bk)] s' → P (.ok .next) s') →
    codeAny (model PP (wF w f₁ f₂ f₃)) (AI (KT w f₁ f₂ f₃) L) (innerC (KT w f₁ f₂ f₃) L IT) P s := by
  intro n
  induction n with
  | zero =>
    intro i hn s F oIT I hit G hP
    have hl := I.isList (a := LI) (vs := items) (by simp)
    refine forPh_ok ?_
    unfold forPh PhW
    rw [xPyNext_eq]
    have hi : items[i]? = none := Array.getElem?_eq_none (by omega)
    refine wpOwn_of_wpAny (wpAny_pyNext_list_end rfl hit hl hi fun h' he => ?_)
    have hz : 358 ≤ h'.objs.size := by
      have e := I.mem.nw (L, lawFr F bk) (by simp)
      have := he L _ (fun z => by
        have hlt := (List.pairwise_cons.mp I.mem.ord).1 L (by simp)
        rw [z] at hlt
        exact absurd hlt (Nat.lt_irrefl _)) e.1
      have hlt : L < h'.objs.size := Heap.lt_size this
      omega
    have I' := (I.drop he hz).sub (news' := [p₃, p₄, (L, lawFr F bk)]) (List.sublist_cons_self ..)
    dsimp only
    unfold PhW
    exact wpOwn_of_wpAny (wpAny_pure ⟨rfl, block_nil (innerElse w f₁ f₂ f₃) (hP _ F I')⟩)
  | succ n ih =>
    intro i hn s F oIT I hit G hP
    have hl := I.isList (a := LI) (vs := items) (by simp)
    refine forPh_ok ?_
    unfold forPh PhW
    rw [xPyNext_eq]
    have hlt : i < items.size := by omega
    have hi : items[i]? = some items[i] := Array.getElem?_eq_getElem hlt
    refine wpOwn_of_wpAny (wpAny_pyNext_list_item hit hl hi fun h' hit' hsame => ?_)
    obtain ⟨o', ho', hc', hd'⟩ := id hit'
    have I' := I.graft ho' hsame
    dsimp only
    refine turnB hK hL I' G (hgood _ (by simp)) fun s'' F' I'' G' _ => ?_
    exact ih (i + 1) (by omega) s'' F' o' I'' ⟨o', (I''.mem.nw (IT, o') (by simp)).1, hc', hd'⟩ G' hP
/-- the loop over the rests, at the first number -/
theorem innerA {items : Array Value} {p₃ p₄ : Addr × Obj} {tb : Nat} (h0 : items[0]? = some (.str (tS []) tb)) (hgood : ∀ v ∈ items.toList, GoodB v) (hK : KF (wF w f₁ f₂ f₃) H) (hL : 358 ≤ L) (s : Shared) (F : FrD) (oIT : Obj)
    (I : Inv H d os tabs0 [(IT, oIT), (LI, lsObj items), p₃, p₄, (L, lawFrA F)] s) (hit : s.heap.IsListIter IT LI 0) (G : GoodF F s.toks)
    (hP : ∀ s' F' bk q₁ q₂, Inv H d os (tabs q₁ q₂) [p₃, p₄, (L, lawFr F' bk)] s' → P (.ok .next) s') :
    codeAny (model PP (wF w f₁ f₂ f₃)) (AI (KT w f₁ f₂ f₃) L) (innerC (KT w f₁ f₂ f₃) L IT) P s := by
  have hl := I.isList (a := LI) (vs := items) (by simp)
  refine forPh_ok ?_
  unfold forPh PhW
  rw [xPyNext_eq]
  refine wpOwn_of_wpAny (wpAny_pyNext_list_item hit hl h0 fun h' hit' hsame => ?_)
  obtain ⟨o', ho', hc', hd'⟩ := id hit'
  have I' := I.graft ho' hsame
  dsimp only
  refine turnA hK hL I' G fun s'' F' bk q₁ q₂ I'' G' _ => ?_
  exact innerB hgood hK hL _ 1 rfl s'' F' o' I'' ⟨o', (I''.mem.nw (IT, o') (by simp)).1, hc', hd'⟩ G' fun s' F' I => hP s' F' bk q₁ q₂ I
end
end Mine

namespace Mine
theorem rests_good (k₀ k₁ k₂ k₃ k₄ k₅ : Nat) : ∀ v ∈ (rests k₀ k₁ k₂ k₃ k₄ k₅).toList, GoodB v := by
  intro v hv
  have e1 : Unicode.isDigit 42 = false := by decide +kernel
  have e2 : Unicode.isDigit 61 = false := by decide +kernel
  have e3 : Unicode.isDigit 97 = false := by decide +kernel
  have e4 : Unicode.isDigit 32 = false := by decide +kernel
  have e5 : Unicode.isDigit 45 = false := by decide +kernel
  simp only [rests, List.mem_cons, List.not_mem_nil, or_false] at hv
  rcases hv with rfl | rfl | rfl | rfl | rfl | rfl
  · exact ⟨_, _, rfl, .inl rfl⟩
  · exact ⟨_, _, rfl, .inr ⟨_, _, rfl, e1, by decide⟩⟩
  · exact ⟨_, _, rfl, .inr ⟨_, _, rfl, e2, by decide⟩⟩
  · exact ⟨_, _, rfl, .inr ⟨_, _, rfl, e3, by decide⟩⟩
  · exact ⟨_, _, rfl, .inr ⟨_, _, rfl, e4, by decide⟩⟩
  · exact ⟨_, _, rfl, .inr ⟨_, _, rfl, e5, by decide⟩⟩
theorem sizeI_nat (x : Int) : ∃ m : Nat, m < 10 ^ 30 ∧ sizeI x = (m : Int) := by
  refine ⟨x.natAbs % 10 ^ 30, Nat.mod_lt _ (by decide), ?_⟩
  unfold sizeI
  rw [Int.ofNat_eq_natCast, Int.fmod_eq_emod_of_nonneg _ (by decide)]
  rw [Int.natCast_emod]
  rfl
theorem log_lt {m : Nat} (h : m < 10 ^ 30) : ((m : Int)).natAbs.log2 < 1920 := by
  rw [Int.natAbs_natCast]
  by_cases h0 : m = 0
  · subst h0; decide
  · refine (Nat.log2_lt h0).mpr (Nat.lt_trans h ?_)
    decide +kernel
theorem repr_ok (x : Int) : (Dsc.repr (sizeI x)).P := by
  obtain ⟨m, hm, e⟩ := sizeI_nat x
  rw [e]
  refine ⟨log_lt hm, ?_⟩
  have := digs_len hm
  rw [line_eq]
  omega
theorem fmod3 (x : Int) : Int.fmod x 3 = 0 ∨ Int.fmod x 3 = 1 ∨ Int.fmod x 3 = 2 := by
  have h1 := Int.fmod_nonneg_of_pos x (b := 3) (by decide)
  have h2 := Int.fmod_lt_of_pos x (b := 3) (by decide)
  omega
/-- the figures of a number -/
theorem good_num {F : FrD} {x : Int} {k t : Nat} (hk : k ≤ 2) (h13 : F.k 13 < t) (hn : F.n = sizeI x) (hkk : F.kk = (k : Int)) (hf : F.fig = List.replicate k 48 ++ digs (sizeI x)) : GoodF F t := by
  obtain ⟨m, hm, e⟩ := sizeI_nat x
  rw [e] at hn hf
  refine ⟨h13, ?_, ?_, by rw [hf, hn]; exact int_figs k m hk hm, ?_, ?_⟩
  · rw [hf]
    intro c hc
    rcases List.mem_append.mp hc with hc | hc
    · rw [(List.mem_replicate.mp hc).2]; decide +kernel
    · exact isDigit_of (digs_all m c hc)
  · rw [hf, List.length_append, List.length_replicate]
    have := digs_len hm
    omega
  · rw [hn]
    refine ⟨log_lt hm, ?_⟩
    have := digs_len hm
    rw [line_eq]
    omega
  · rcases Nat.eq_zero_or_pos k with rfl | hkp
    · rw [List.replicate_zero, List.nil_append] at hf
      rcases Nat.eq_zero_or_pos m with rfl | hm0
      · refine .inr (.inr ⟨?_, hkk, hn⟩)
        rw [hf]
        exact digs_zero
      · obtain ⟨c, r, hc, h1, h2⟩ := digs_head hm0
        refine .inr (.inl ⟨c, r, by rw [hf, hc], by omega, hkk⟩)
    · refine .inl ?_
      have hpos : F.kk > 0 := by rw [hkk]; omega
      cases hd : digs (m : Int) with
      | nil => exact absurd hd (digs_ne m)
      | cons c r =>
        rw [hd] at hf
        have : k = 1 ∨ k = 2 := by omega
        rcases this with rfl | rfl
        · exact ⟨c, r, by rw [hf]; rfl, hpos⟩
        · exact ⟨48, c :: r, by rw [hf]; rfl, hpos⟩
section
variable {w : World} {f₁ f₂ f₃ : Bool} {H : Heap} {d : Drawn} {os : OsState} {L OIT : Nat}
theorem head_of {v v' : Value} {s : Shared} {ch ch' news ps : List (Addr × Obj)} {hs : List Nat} {ks : List Nat} {cs : List Dsc} {b t m i : Nat} {gl : List GenState}
    (hK : KF (wF w f₁ f₂ f₃) H) (I : Inv H d os ch news s)
    (ht : ∀ sk, (headRn w f₁ f₂ f₃ H s.gens d os L OIT v ⟨s.heap.objs.size - 358, s.toks, news, 358, 0, hs, [], ch, []⟩ sk).sum ks = some (v', ps.map some, (b, t, m, i, ch', gl), [], cs, (headRn w f₁ f₂ f₃ H s.gens d os L OIT v ⟨s.heap.objs.size - 358, s.toks, news, 358, 0, hs, [], ch, []⟩ sk).rt))
    (hc : AllP cs) (hks : ks.Pairwise (· < ·)) (hb : 358 ≤ b + m) (hg : ∀ x ∈ gl, x.bare = true) {Q : Value → Shared → Prop}
    (next : ∀ s', Inv H d os ch' ps s' → s'.toks = t + i → Q v' s') :
    wpOwn (model PP (wF w f₁ f₂ f₃)) (AI (KT w f₁ f₂ f₃) L) (outerC (KT w f₁ f₂ f₃) L OIT) (headU (KT w f₁ f₂ f₃) L OIT v) Q (fun _ _ => False) s := by
  have O : (VT w f₁ f₂ f₃ H s.gens d os [] []).Ok := toVT hK (fun _ h => (nomatch h)) trivial (by decide) (by decide)
  refine run_sound O 4000 (AI (KT w f₁ f₂ f₃) L) (outerC (KT w f₁ f₂ f₃) L OIT) Value (headU (KT w f₁ f₂ f₃) L OIT v) _ s _ _ (fun sk => ?_) (I.rep w f₁ f₂ f₃ [] [] hs)
  refine fine_of_sum (ht sk) hc fun st s' D' hn hm => ?_
  obtain ⟨I', tk, _⟩ := Inv.of D' hks hn hm hb I.bare hg
  exact next s' I' tk
/-- what stands behind the head of an outer turn -/
noncomputable def HeadB (H : Heap) (d : Drawn) (os : OsState) (L q₁ q₂ : Nat) (bk : Value) (p₃ p₄ : Addr × Obj) (it : Value) (s' : Shared) : Prop :=
  ∃ (F' : FrD) (LI IT k₀ k₁ k₂ k₃ k₄ k₅ : Nat), it = .ref IT ∧ Inv H d os (tabs q₁ q₂) [(IT, liObj LI 0), (LI, lsObj (rests k₀ k₁ k₂ k₃ k₄ k₅)), p₃, p₄, (L, lawFr F' bk)] s' ∧ GoodF F' s'.toks
noncomputable def HeadA (H : Heap) (d : Drawn) (os : OsState) (L : Nat) (p₃ p₄ : Addr × Obj) (it : Value) (s' : Shared) : Prop :=
  ∃ (F' : FrD) (LI IT k₀ k₁ k₂ k₃ k₄ k₅ : Nat), it = .ref IT ∧ Inv H d os tabs0 [(IT, liObj LI 0), (LI, lsObj (rests k₀ k₁ k₂ k₃ k₄ k₅)), p₃, p₄, (L, lawFrA F')] s' ∧ GoodF F' s'.toks
theorem gt_pos {x : Int} (h : ¬ x < 0) : (Dsc.gt (x + 1) 0).P := by show x + 1 > 0; omega
theorem mod_ok {x : Int} {k : Nat} (h : Int.fmod x 3 = (k : Int)) : (Dsc.mod x 3 k).P := ⟨by decide, h⟩
theorem add1 (x : Int) : (Dsc.add (tS [48]) (tS (digs (sizeI x)))).P := by
  obtain ⟨m, hm, e⟩ := sizeI_nat x
  rw [e]
  have := digs_len hm
  exact d_add (by simp) (digs_ne m) (by simp only [List.length_cons, List.length_nil]; omega)
theorem add2 (x : Int) : (Dsc.add (tS [48, 48]) (tS (digs (sizeI x)))).P := by
  obtain ⟨m, hm, e⟩ := sizeI_nat x
  rw [e]
  have := digs_len hm
  exact d_add (by simp) (digs_ne m) (by simp only [List.length_cons, List.length_nil]; omega)
theorem headB {F : FrD} {bk : Value} {q₁ q₂ tb : Nat} {xx : Int} {p₃ p₄ : Addr × Obj} {s : Shared} (hK : KF (wF w f₁ f₂ f₃) H) (hL : 358 ≤ L) (I : Inv H d os (tabs q₁ q₂) [p₃, p₄, (L, lawFr F bk)] s) :
    wpOwn (model PP (wF w f₁ f₂ f₃)) (AI (KT w f₁ f₂ f₃) L) (outerC (KT w f₁ f₂ f₃) L OIT) (headU (KT w f₁ f₂ f₃) L OIT (.int xx tb)) (HeadB H d os L q₁ q₂ bk p₃ p₄) (fun _ _ => False) s := by
  obtain ⟨yL, rfl⟩ : ∃ y, L = y + 358 := ⟨L - 358, by omega⟩
  rcases fmod3 xx with hk | hk | hk
  · by_cases hx : xx < 0
    · refine head_of (hs := h_HB0n) (ks := [0, 1, 2, 3, 4]) (ps := [(s.heap.objs.size - 358 + 359, liObj _ 0), (s.heap.objs.size - 358 + 358, lsObj (rests ..)), p₃, p₄, (yL + 358, lawFr _ bk)]) hK I (fun sk => t_HB0n w f₁ f₂ f₃ H s.gens d os F yL OIT q₁ q₂ bk (s.heap.objs.size - 358) s.toks tb xx p₃ p₄ sk)
        ⟨repr_ok xx, mod_ok hk, hx, trivial⟩ (by decide) (by omega) (fun _ h => (nomatch h)) fun s' I' tk => ?_
      exact ⟨_, _, _, _, _, _, _, _, _, rfl, I', good_num (k := 0) (x := xx) (by decide) (by rw [tk]; show s.toks + _ < _; omega) rfl rfl rfl⟩
    · refine head_of (hs := h_HB0p) (ks := [0, 1, 2, 3, 4]) (ps := [(s.heap.objs.size - 358 + 359, liObj _ 0), (s.heap.objs.size - 358 + 358, lsObj (rests ..)), p₃, p₄, (yL + 358, lawFr _ bk)]) hK I (fun sk => t_HB0p w f₁ f₂ f₃ H s.gens d os F yL OIT q₁ q₂ bk (s.heap.objs.size - 358) s.toks tb xx p₃ p₄ sk)
        ⟨repr_ok xx, mod_ok hk, gt_pos hx, trivial⟩ (by decide) (by omega) (fun _ h => (nomatch h)) fun s' I' tk => ?_
      exact ⟨_, _, _, _, _, _, _, _, _, rfl, I', good_num (k := 0) (x := xx) (by decide) (by rw [tk]; show s.toks + _ < _; omega) rfl rfl rfl⟩
  · by_cases hx : xx < 0
    · refine head_of (hs := h_HB1n) (ks := [0, 1, 2, 3, 4]) (ps := [(s.heap.objs.size - 358 + 359, liObj _ 0), (s.heap.objs.size - 358 + 358, lsObj (rests ..)), p₃, p₄, (yL + 358, lawFr _ bk)]) hK I (fun sk => t_HB1n w f₁ f₂ f₃ H s.gens d os F yL OIT q₁ q₂ bk (s.heap.objs.size - 358) s.toks tb xx p₃ p₄ sk)
        ⟨add1 xx, repr_ok xx, mod_ok hk, hx, trivial⟩ (by decide) (by omega) (fun _ h => (nomatch h)) fun s' I' tk => ?_
      exact ⟨_, _, _, _, _, _, _, _, _, rfl, I', good_num (k := 1) (x := xx) (by decide) (by rw [tk]; show s.toks + _ < _; omega) rfl rfl rfl⟩
    · refine head_of (hs := h_HB1p) (ks := [0, 1, 2, 3, 4]) (ps := [(s.heap.objs.size - 358 + 359, liObj _ 0), (s.heap.objs.size - 358 + 358, lsObj (rests ..)), p₃, p₄, (yL + 358, lawFr _ bk)]) hK I (fun sk => t_HB1p w f₁ f₂ f₃ H s.gens d os F yL OIT q₁ q₂ bk (s.heap.objs.size - 358) s.toks tb xx p₃ p₄ sk)
        ⟨add1 xx, repr_ok xx, mod_ok hk, gt_pos hx, trivial⟩ (by decide) (by omega) (fun _ h => (nomatch h)) fun s' I' tk => ?_
      exact ⟨_, _, _, _, _, _, _, _, _, rfl, I', good_num (k := 1) (x := xx) (by decide) (by rw [tk]; show s.toks + _ < _; omega) rfl rfl rfl⟩
  · by_cases hx : xx < 0
    · refine head_of (hs := h_HB2n) (ks := [0, 1, 2, 3, 4]) (ps := [(s.heap.objs.size - 358 + 359, liObj _ 0), (s.heap.objs.size - 358 + 358, lsObj (rests ..)), p₃, p₄, (yL + 358, lawFr _ bk)]) hK I (fun sk => t_HB2n w f₁ f₂ f₃ H s.gens d os F yL OIT q₁ q₂ bk (s.heap.objs.size - 358) s.toks tb xx p₃ p₄ sk)
        ⟨add2 xx, repr_ok xx, mod_ok hk, hx, trivial⟩ (by decide) (by omega) (fun _ h => (nomatch h)) fun s' I' tk => ?_
      exact ⟨_, _, _, _, _, _, _, _, _, rfl, I', good_num (k := 2) (x := xx) (by decide) (by rw [tk]; show s.toks + _ < _; omega) rfl rfl rfl⟩
    · refine head_of (hs := h_HB2p) (ks := [0, 1, 2, 3, 4]) (ps := [(s.heap.objs.size - 358 + 359, liObj _ 0), (s.heap.objs.size - 358 + 358, lsObj (rests ..)), p₃, p₄, (yL + 358, lawFr _ bk)]) hK I (fun sk => t_HB2p w f₁ f₂ f₃ H s.gens d os F yL OIT q₁ q₂ bk (s.heap.objs.size - 358) s.toks tb xx p₃ p₄ sk)
        ⟨add2 xx, repr_ok xx, mod_ok hk, gt_pos hx, trivial⟩ (by decide) (by omega) (fun _ h => (nomatch h)) fun s' I' tk => ?_
      exact ⟨_, _, _, _, _, _, _, _, _, rfl, I', good_num (k := 2) (x := xx) (by decide) (by rw [tk]; show s.toks + _ < _; omega) rfl rfl rfl⟩
theorem headA {F : FrD} {tb : Nat} {xx : Int} {p₃ p₄ : Addr × Obj} {s : Shared} (hK : KF (wF w f₁ f₂ f₃) H) (hL : 358 ≤ L) (I : Inv H d os tabs0 [p₃, p₄, (L, lawFr0 F)] s) :
    wpOwn (model PP (wF w f₁ f₂ f₃)) (AI (KT w f₁ f₂ f₃) L) (outerC (KT w f₁ f₂ f₃) L OIT) (headU (KT w f₁ f₂ f₃) L OIT (.int xx tb)) (HeadA H d os L p₃ p₄) (fun _ _ => False) s := by
  obtain ⟨yL, rfl⟩ : ∃ y, L = y + 358 := ⟨L - 358, by omega⟩
  rcases fmod3 xx with hk | hk | hk
  · by_cases hx : xx < 0
    · refine head_of (hs := h_HA0n) (ks := [0, 1, 2, 3, 4]) (ps := [(s.heap.objs.size - 358 + 359, liObj _ 0), (s.heap.objs.size - 358 + 358, lsObj (rests ..)), p₃, p₄, (yL + 358, lawFrA _)]) hK I (fun sk => t_HA0n w f₁ f₂ f₃ H s.gens d os F yL OIT (s.heap.objs.size - 358) s.toks tb xx p₃ p₄ sk)
        ⟨repr_ok xx, mod_ok hk, hx, trivial⟩ (by decide) (by omega) (fun _ h => (nomatch h)) fun s' I' tk => ?_
      exact ⟨_, _, _, _, _, _, _, _, _, rfl, I', good_num (k := 0) (x := xx) (by decide) (by rw [tk]; show s.toks + _ < _; omega) rfl rfl rfl⟩
    · refine head_of (hs := h_HA0p) (ks := [0, 1, 2, 3, 4]) (ps := [(s.heap.objs.size - 358 + 359, liObj _ 0), (s.heap.objs.size - 358 + 358, lsObj (rests ..)), p₃, p₄, (yL + 358, lawFrA _)]) hK I (fun sk => t_HA0p w f₁ f₂ f₃ H s.gens d os F yL OIT (s.heap.objs.size - 358) s.toks tb xx p₃ p₄ sk)
        ⟨repr_ok xx, mod_ok hk, gt_pos hx, trivial⟩ (by decide) (by omega) (fun _ h => (nomatch h)) fun s' I' tk => ?_
      exact ⟨_, _, _, _, _, _, _, _, _, rfl, I', good_num (k := 0) (x := xx) (by decide) (by rw [tk]; show s.toks + _ < _; omega) rfl rfl rfl⟩
  · by_cases hx : xx < 0
    · refine head_of (hs := h_HA1n) (ks := [0, 1, 2, 3, 4]) (ps := [(s.heap.objs.size - 358 + 359, liObj _ 0), (s.heap.objs.size - 358 + 358, lsObj (rests ..)), p₃, p₄, (yL + 358, lawFrA _)]) hK I (fun sk => t_HA1n w f₁ f₂ f₃ H s.gens d os F yL OIT (s.heap.objs.size - 358) s.toks tb xx p₃ p₄ sk)
        ⟨add1 xx, repr_ok xx, mod_ok hk, hx, trivial⟩ (by decide) (by omega) (fun _ h => (nomatch h)) fun s' I' tk => ?_
      exact ⟨_, _, _, _, _, _, _, _, _, rfl, I', good_num (k := 1) (x := xx) (by decide) (by rw [tk]; show s.toks + _ < _; omega) rfl rfl rfl⟩
    · refine head_of (hs := h_HA1p) (ks := [0, 1, 2, 3, 4]) (ps := [(s.heap.objs.size - 358 + 359, liObj _ 0), (s.heap.objs.size - 358 + 358, lsObj (rests ..)), p₃, p₄, (yL + 358, lawFrA _)]) hK I (fun sk => t_HA1p w f₁ f₂ f₃ H s.gens d os F yL OIT (s.heap.objs.size - 358) s.toks tb xx p₃ p₄ sk)
        ⟨add1 xx, repr_ok xx, mod_ok hk, gt_pos hx, trivial⟩ (by decide) (by omega) (fun _ h => (nomatch h)) fun s' I' tk => ?_
      exact ⟨_, _, _, _, _, _, _, _, _, rfl, I', good_num (k := 1) (x := xx) (by decide) (by rw [tk]; show s.toks + _ < _; omega) rfl rfl rfl⟩
  · by_cases hx : xx < 0
    · refine head_of (hs := h_HA2n) (ks := [0, 1, 2, 3, 4]) (ps := [(s.heap.objs.size - 358 + 359, liObj _ 0), (s.heap.objs.size - 358 + 358, lsObj (rests ..)), p₃, p₄, (yL + 358, lawFrA _)]) hK I (fun sk => t_HA2n w f₁ f₂ f₃ H s.gens d os F yL OIT (s.heap.objs.size - 358) s.toks tb xx p₃ p₄ sk)
        ⟨add2 xx, repr_ok xx, mod_ok hk, hx, trivial⟩ (by decide) (by omega) (fun _ h => (nomatch h)) fun s' I' tk => ?_
      exact ⟨_, _, _, _, _, _, _, _, _, rfl, I', good_num (k := 2) (x := xx) (by decide) (by rw [tk]; show s.toks + _ < _; omega) rfl rfl rfl⟩
    · refine head_of (hs := h_HA2p) (ks := [0, 1, 2, 3, 4]) (ps := [(s.heap.objs.size - 358 + 359, liObj _ 0), (s.heap.objs.size - 358 + 358, lsObj (rests ..)), p₃, p₄, (yL + 358, lawFrA _)]) hK I (fun sk => t_HA2p w f₁ f₂ f₃ H s.gens d os F yL OIT (s.heap.objs.size - 358) s.toks tb xx p₃ p₄ sk)
        ⟨add2 xx, repr_ok xx, mod_ok hk, gt_pos hx, trivial⟩ (by decide) (by omega) (fun _ h => (nomatch h)) fun s' I' tk => ?_
      exact ⟨_, _, _, _, _, _, _, _, _, rfl, I', good_num (k := 2) (x := xx) (by decide) (by rw [tk]; show s.toks + _ < _; omega) rfl rfl rfl⟩
end
end Mine

namespace Mine
section
variable (w : World) (f₁ f₂ f₃ : Bool)
theorem lawBody_eq : lawBody (KT w f₁ f₂ f₃) = .For (outerIn (KT w f₁ f₂ f₃)).1 (outerIn (KT w f₁ f₂ f₃)).2.1 (outerIn (KT w f₁ f₂ f₃)).2.2.1 (outerIn (KT w f₁ f₂ f₃)).2.2.2.1 (forPos (lawBody (KT w f₁ f₂ f₃))) :: (outerIn (KT w f₁ f₂ f₃)).2.2.2.2.2 := by kernel_rfl
theorem outerBody_eq : (outerIn (KT w f₁ f₂ f₃)).2.2.1 = (innerIn (KT w f₁ f₂ f₃)).2.2.2.2.1 ++ [.For (innerIn (KT w f₁ f₂ f₃)).1 (innerIn (KT w f₁ f₂ f₃)).2.1 (innerIn (KT w f₁ f₂ f₃)).2.2.1 (innerIn (KT w f₁ f₂ f₃)).2.2.2.1 (forPos (outerIn (KT w f₁ f₂ f₃)).2.2.1)] := by kernel_rfl
theorem foldO (env : Env) (x : Value) : foldedSetIterable (outerIn (KT w f₁ f₂ f₃)).2.1 env x = pure x := by kernel_rfl
theorem foldI (env : Env) (x : Value) : foldedSetIterable (innerIn (KT w f₁ f₂ f₃)).2.1 env x = pure x := by kernel_rfl
theorem A_inner (L OIT : Nat) : ((AI (KT w f₁ f₂ f₃) L).under (outerC (KT w f₁ f₂ f₃) L OIT)).mark none = AI (KT w f₁ f₂ f₃) L := by kernel_rfl
theorem A_outer (L : Nat) : (callerA.under (.func (lawBody (KT w f₁ f₂ f₃)) (lawEnv (KT w f₁ f₂ f₃) L))).mark none = AI (KT w f₁ f₂ f₃) L := by kernel_rfl
end
theorem execs_append : ∀ (l₁ l₂ : List Stmt) (env : Env), execs (l₁ ++ l₂) env = (execs l₁ env >>= fun f => match f with | .next => execs l₂ env | f => pure f)
  | [], l₂, env => rfl
  | s :: l, l₂, env => by
    rw [List.cons_append, execs_cons, execs_cons, bind_assoc]
    refine congrArg _ (funext fun f => ?_)
    cases f with
    | next => exact execs_append l l₂ env
    | _ => rfl
section
variable {prog : Program} {w : World} {A : Around} {c : Code} {s : Shared}
theorem for_at {t e : Expr} {b o : List Stmt} {p : Pos} {env : Env} {Q : Flow → Shared → Prop} {E : Value → Shared → Prop} (hf : ∀ x, foldedSetIterable e env x = pure x) {Γ : Ctx} {p' : Pos} (hc : Γ.code = c) (hΓ : Γ.Below A)
    (z : Sem.wp (model prog w) Γ (forT e p env) (fun it _ s' => codeAny (model prog w) ((A.under c).mark none) (.forLoop t it b o env) (fun r s'' => ∃ f, r = .ok f ∧ Q f s'') s') (fun _ _ _ => False) p' s) :
    Sem.wp (model prog w) Γ (exec (.For t e b o p) env) (fun f _ s' => Q f s') (fun x _ s' => E x s') p' s := by
  unfold forT at z
  rw [xEval_eq, xPyIter_eq] at z
  have e0 : exec (.For t e b o p) env = (standAt p >>= fun _ => eval e env >>= fun v => foldedSetIterable e env v >>= fun x => standAt e.pos >>= fun _ => holding [x] (pyIter x) >>= fun it => runOwn (.forLoop t it b o env) env) := rfl
  rw [e0]
  simp only [hf, pure_bind, Sem.wp_bind', Sem.wp_holding, Sem.wp_cmd_standAt] at z ⊢
  refine Sem.wp_mono _ Γ _ (fun x p₂ s₂ h₂ => ?_) (fun _ _ _ h => h.elim) _ s z
  refine Sem.wp_mono _ Γ _ (fun it p₃ s₃ h₃ => ?_) (fun _ _ _ h => h.elim) _ s₂ h₂
  have y : wpOwn (model prog w) A c (runOwn (.forLoop t it b o env) env) Q E s₃ := by
    unfold runOwn
    refine own_onRaise ?_
    unfold PySem.run
    refine y_call _ _ _ _ _ _ _ _ _ _ _ _ _ (by intro z; cases z) ?_
    refine codeAny_mono h₃ (fun r s' h => ?_)
    obtain ⟨f, rfl, hq⟩ := h
    exact wpOwn_of_wpAny (wpAny_pure hq)
  exact y Γ p₃ hc hΓ
theorem own_for {t e : Expr} {b o : List Stmt} {p : Pos} {env : Env} {Q : Flow → Shared → Prop} {E : Value → Shared → Prop} (hf : ∀ x, foldedSetIterable e env x = pure x)
    (H : wpOwn (model prog w) A c (forT e p env) (fun it s' => codeAny (model prog w) ((A.under c).mark none) (.forLoop t it b o env) (fun r s'' => ∃ f, r = .ok f ∧ Q f s'') s') (fun _ _ => False) s) :
    wpOwn (model prog w) A c (exec (.For t e b o p) env) Q E s := fun Γ p' hc hΓ => for_at hf hc hΓ (H Γ p' hc hΓ)
end
section
variable {w : World} {f₁ f₂ f₃ : Bool} {H : Heap} {d : Drawn} {os : OsState} {L OIT OL : Nat} {P : Result → Shared → Prop}
/-- one outer turn, by its head and its inner loop -/
theorem outer_turn {v : Value} {s : Shared} {Q : Flow → Shared → Prop} {E : Value → Shared → Prop}
    (Hd : wpOwn (model PP (wF w f₁ f₂ f₃)) (AI (KT w f₁ f₂ f₃) L) (outerC (KT w f₁ f₂ f₃) L OIT) (headU (KT w f₁ f₂ f₃) L OIT v)
      (fun it s' => codeAny (model PP (wF w f₁ f₂ f₃)) (AI (KT w f₁ f₂ f₃) L) (.forLoop (innerIn (KT w f₁ f₂ f₃)).1 it (innerIn (KT w f₁ f₂ f₃)).2.2.1 (innerIn (KT w f₁ f₂ f₃)).2.2.2.1 (lawEnv (KT w f₁ f₂ f₃) L)) (fun r s'' => r = .ok .next ∧ Q .next s'') s') (fun _ _ => False) s) :
    wpOwn (model PP (wF w f₁ f₂ f₃)) (AI (KT w f₁ f₂ f₃) L) (outerC (KT w f₁ f₂ f₃) L OIT)
      (letOwnedTupleGo (outerIn (KT w f₁ f₂ f₃)).1 (.ref OIT) v >>= fun _ => assign (outerIn (KT w f₁ f₂ f₃)).1 (lawEnv (KT w f₁ f₂ f₃) L) v >>= fun _ => execs (outerIn (KT w f₁ f₂ f₃)).2.2.1 (lawEnv (KT w f₁ f₂ f₃) L)) Q E s := by
  rw [outerBody_eq w f₁ f₂ f₃]
  intro Γ p hc hΓ
  have z := Hd Γ p hc hΓ
  unfold headU at z
  rw [xOwnedTuple_eq, xAssign_eq, xExecs_eq] at z
  simp only [execs_append, Sem.wp_bind'] at z ⊢
  refine Sem.wp_mono _ Γ _ (fun _ p₁ s₁ h₁ => ?_) (fun _ _ _ h => h.elim) _ s z
  refine Sem.wp_mono _ Γ _ (fun _ p₂ s₂ h₂ => ?_) (fun _ _ _ h => h.elim) _ s₁ h₁
  refine Sem.wp_mono _ Γ _ (fun f p₃ s₃ h₃ => ?_) (fun _ _ _ h => h.elim) _ s₂ h₂
  cases f with
  | next =>
    dsimp only at h₃ ⊢
    rw [execs_cons, Sem.wp_bind']
    refine for_at (Q := fun f s' => ∀ p, Sem.wp (model PP (wF w f₁ f₂ f₃)) Γ (match f with | .next => execs [] (lawEnv (KT w f₁ f₂ f₃) L) | f => pure f) (fun f _ s' => Q f s') (fun x _ s' => E x s') p s') (E := E) (foldI w f₁ f₂ f₃ _) hc hΓ ?_ |> fun z => Sem.wp_mono _ Γ _ (fun f p' s' h => h p') (fun _ _ _ h => h) _ _ z
    rw [A_inner]
    refine Sem.wp_mono _ Γ _ (fun it p' s' h' => ?_) (fun _ _ _ h => h) _ _ h₃
    refine codeAny_mono h' fun r s'' h => ?_
    obtain ⟨rfl, hq⟩ := h
    exact ⟨.next, rfl, fun p => hq⟩
  | _ => exact False.elim (by simp at h₃)
end
end Mine

namespace Mine
section
variable {w : World} {f₁ f₂ f₃ : Bool} {H : Heap} {d : Drawn} {os : OsState} {L OIT OL : Nat} {P : Result → Shared → Prop}
theorem outerQ {K : Frag} : (outerC K L OIT).quiet = true := by rfl
/-- the outer loop at an item, by its turn -/
theorem outer_item {items : Array Value} {i : Nat} {v : Value} {s : Shared} {oOIT oL : Obj} {ch : List (Addr × Obj)} (I : Inv H d os ch [(OIT, oOIT), (OL, lsObj items), (L, oL)] s) (hit : s.heap.IsListIter OIT OL i) (hi : items[i]? = some v)
    (next : ∀ o' h', Inv H d os ch [(OIT, o'), (OL, lsObj items), (L, oL)] { s with heap := h' } → o'.cls = .type "list_iterator" → o'.data = .fields #[.ref OL, .int ((i + 1 : Nat) : Int) 0] →
      wpOwn (model PP (wF w f₁ f₂ f₃)) (AI (KT w f₁ f₂ f₃) L) (outerC (KT w f₁ f₂ f₃) L OIT)
        (letOwnedTupleGo (outerIn (KT w f₁ f₂ f₃)).1 (.ref OIT) v >>= fun _ => assign (outerIn (KT w f₁ f₂ f₃)).1 (lawEnv (KT w f₁ f₂ f₃) L) v >>= fun _ => execs (outerIn (KT w f₁ f₂ f₃)).2.2.1 (lawEnv (KT w f₁ f₂ f₃) L))
        (fun f s' => f = .next ∧ codeAny (model PP (wF w f₁ f₂ f₃)) (AI (KT w f₁ f₂ f₃) L) (outerC (KT w f₁ f₂ f₃) L OIT) P s') (fun _ _ => False) { s with heap := h' }) :
    codeAny (model PP (wF w f₁ f₂ f₃)) (AI (KT w f₁ f₂ f₃) L) (outerC (KT w f₁ f₂ f₃) L OIT) P s := by
  have hl := I.isList (a := OL) (vs := items) (by simp)
  refine y_code _ _ _ _ _ _ ?_
  show wpOwn _ _ _ ((forTurn (outerIn (KT w f₁ f₂ f₃)).1 (.ref OIT) (outerIn (KT w f₁ f₂ f₃)).2.2.1 (outerIn (KT w f₁ f₂ f₃)).2.2.2.1 (lawEnv (KT w f₁ f₂ f₃) L)).onRaise _) _ _ _
  refine own_onRaise ?_
  unfold forTurn
  refine wpOwn_bind (wpOwn_of_wpAny (wpAny_standAt ?_))
  refine wpOwn_bind (own_onRaise (wpOwn_of_wpAny (wpAny_pyNext_list_item hit hl hi fun h' hit' hsame => ?_)))
  obtain ⟨o', ho', hc', hd'⟩ := id hit'
  have z := next o' h' (I.graft ho' hsame) hc' hd'
  dsimp only
  have y : wpOwn (model PP (wF w f₁ f₂ f₃)) (AI (KT w f₁ f₂ f₃) L) (outerC (KT w f₁ f₂ f₃) L OIT)
      ((letOwnedTupleGo (outerIn (KT w f₁ f₂ f₃)).1 (.ref OIT) v >>= fun _ => assign (outerIn (KT w f₁ f₂ f₃)).1 (lawEnv (KT w f₁ f₂ f₃) L) v >>= fun _ => execs (outerIn (KT w f₁ f₂ f₃)).2.2.1 (lawEnv (KT w f₁ f₂ f₃) L)) >>= fun f => match f with
        | .next => again (outerC (KT w f₁ f₂ f₃) L OIT)
        | .cont => again (outerC (KT w f₁ f₂ f₃) L OIT)
        | .brk => pure (.done .next)
        | .ret v => pure (.done (.ret v))) (postC PP (wF w f₁ f₂ f₃) (AI (KT w f₁ f₂ f₃) L) P) (fun _ _ => False) { s with heap := h' } := by
    refine wpOwn_bind (wpOwn_mono z (fun f s' h => ?_) fun _ _ h => h)
    obtain ⟨rfl, h⟩ := h
    exact wpOwn_of_wpAny (wpAny_pure ⟨outerQ, h⟩)
  intro Γ p hc hΓ
  have x := y Γ p hc hΓ
  simp only [Sem.wp_bind'] at x ⊢
  refine Sem.wp_mono _ Γ _ (fun _ p₁ s₁ h₁ => ?_) (fun _ _ _ h => False.elim h) _ _ x
  refine Sem.wp_mono _ Γ _ (fun _ p₂ s₂ h₂ => ?_) (fun _ _ _ h => False.elim h) _ _ h₁
  refine Sem.wp_mono _ Γ _ (fun f p₃ s₃ h₃ => ?_) (fun _ _ _ h => False.elim h) _ _ h₂
  cases f <;> exact h₃
/-- the outer loop behind its last item -/
theorem outer_end {items : Array Value} {i : Nat} {s : Shared} {oOIT oL : Obj} {ch : List (Addr × Obj)} (hL : 358 ≤ L) (I : Inv H d os ch [(OIT, oOIT), (OL, lsObj items), (L, oL)] s) (hit : s.heap.IsListIter OIT OL i) (hi : items[i]? = none)
    (hP : ∀ s', Inv H d os ch [(L, oL)] s' → P (.ok .next) s') : codeAny (model PP (wF w f₁ f₂ f₃)) (AI (KT w f₁ f₂ f₃) L) (outerC (KT w f₁ f₂ f₃) L OIT) P s := by
  have hl := I.isList (a := OL) (vs := items) (by simp)
  refine y_code _ _ _ _ _ _ ?_
  show wpOwn _ _ _ ((forTurn (outerIn (KT w f₁ f₂ f₃)).1 (.ref OIT) (outerIn (KT w f₁ f₂ f₃)).2.2.1 (outerIn (KT w f₁ f₂ f₃)).2.2.2.1 (lawEnv (KT w f₁ f₂ f₃) L)).onRaise _) _ _ _
  refine own_onRaise ?_
  unfold forTurn
  refine wpOwn_bind (wpOwn_of_wpAny (wpAny_standAt ?_))
  refine wpOwn_bind (own_onRaise (wpOwn_of_wpAny (wpAny_pyNext_list_end rfl hit hl hi fun h' he => ?_)))
  have hz : 358 ≤ h'.objs.size := by
    have e := I.mem.nw (L, oL) (by simp)
    have := he L _ (fun z => by
      have hlt := (List.pairwise_cons.mp I.mem.ord).1 L (by simp)
      rw [z] at hlt
      exact absurd hlt (Nat.lt_irrefl _)) e.1
    have hlt : L < h'.objs.size := Heap.lt_size this
    omega
  have I' := (I.drop he hz).sub (news' := [(L, oL)]) (List.sublist_cons_self ..)
  exact wpOwn_of_wpAny (wpAny_pure ⟨rfl, block_nil (outerElse w f₁ f₂ f₃) (hP _ I')⟩)
end
end Mine

namespace Mine
section
variable {w : World} {f₁ f₂ f₃ : Bool} {H : Heap} {d : Drawn} {os : OsState} {L OIT OL : Nat} {P : Result → Shared → Prop}
theorem outerB {items : Array Value} {bk : Value} {q₁ q₂ : Nat} (hint : ∀ v ∈ items.toList, ∃ x t, v = .int x t) (hK : KF (wF w f₁ f₂ f₃) H) (hL : 358 ≤ L) : ∀ (n i : Nat), items.size - i = n → ∀ (s : Shared) (F : FrD) (oOIT : Obj),
    Inv H d os (tabs q₁ q₂) [(OIT, oOIT), (OL, lsObj items), (L, lawFr F bk)] s → s.heap.IsListIter OIT OL i →
    (∀ s' F', Inv H d os (tabs q₁ q₂) [(L, lawFr F' bk)] s' → P (.ok .next) s') →
    codeAny (model PP (wF w f₁ f₂ f₃)) (AI (KT w f₁ f₂ f₃) L) (outerC (KT w f₁ f₂ f₃) L OIT) P s := by
  intro n
  induction n with
  | zero =>
    intro i hn s F oOIT I hit hP
    exact outer_end hL I hit (Array.getElem?_eq_none (by omega)) fun s' I' => hP s' F I'
  | succ n ih =>
    intro i hn s F oOIT I hit hP
    have hlt : i < items.size := by omega
    refine outer_item I hit (Array.getElem?_eq_getElem hlt) fun o' h' I' hc' hd' => ?_
    obtain ⟨x, t, hv⟩ := hint items[i] (by simp)
    rw [hv]
    refine outer_turn (wpOwn_mono (headB hK hL I') (fun it s₁ h₁ => ?_) fun _ _ h => h)
    obtain ⟨F', LI, IT, k₀, k₁, k₂, k₃, k₄, k₅, rfl, I₁, G⟩ := h₁
    refine innerB (rests_good k₀ k₁ k₂ k₃ k₄ k₅) hK hL _ 0 rfl s₁ F' _ I₁ ⟨_, (I₁.mem.nw (IT, liObj LI 0) (by simp)).1, rfl, rfl⟩ G fun s₂ F₂ I₂ => ?_
    refine ⟨rfl, rfl, ?_⟩
    exact ih (i + 1) (by omega) s₂ F₂ o' I₂ ⟨o', (I₂.mem.nw (OIT, o') (by simp)).1, hc', hd'⟩ hP
theorem outerA {items : Array Value} (hint : ∀ v ∈ items.toList, ∃ x t, v = .int x t) (hne : 0 < items.size) (hK : KF (wF w f₁ f₂ f₃) H) (hL : 358 ≤ L) (s : Shared) (F : FrD) (oOIT : Obj)
    (I : Inv H d os tabs0 [(OIT, oOIT), (OL, lsObj items), (L, lawFr0 F)] s) (hit : s.heap.IsListIter OIT OL 0)
    (hP : ∀ s' F' bk q₁ q₂, Inv H d os (tabs q₁ q₂) [(L, lawFr F' bk)] s' → P (.ok .next) s') :
    codeAny (model PP (wF w f₁ f₂ f₃)) (AI (KT w f₁ f₂ f₃) L) (outerC (KT w f₁ f₂ f₃) L OIT) P s := by
  refine outer_item I hit (Array.getElem?_eq_getElem hne) fun o' h' I' hc' hd' => ?_
  obtain ⟨x, t, hv⟩ := hint items[0] (by simp)
  rw [hv]
  refine outer_turn (wpOwn_mono (headA hK hL I') (fun it s₁ h₁ => ?_) fun _ _ h => h)
  obtain ⟨F', LI, IT, k₀, k₁, k₂, k₃, k₄, k₅, rfl, I₁, G⟩ := h₁
  refine innerA (tb := k₀) rfl (rests_good k₀ k₁ k₂ k₃ k₄ k₅) hK hL s₁ F' _ I₁ ⟨_, (I₁.mem.nw (IT, liObj LI 0) (by simp)).1, rfl, rfl⟩ G fun s₂ F₂ bk q₁ q₂ I₂ => ?_
  refine ⟨rfl, rfl, ?_⟩
  exact outerB hint hK hL _ 1 rfl s₂ F₂ o' I₂ ⟨o', (I₂.mem.nw (OIT, o') (by simp)).1, hc', hd'⟩ fun s' F' I => hP s' F' bk q₁ q₂ I
end
end Mine

namespace Mine
theorem mem_unhide {h₁ h : Heap} {S : Addr} {oS : Obj} {ch news : List (Addr × Obj)} (hS : h₁.get? S = some oS) (D : Mem (hideAll h₁ [S]) h ch (news ++ [(S, oS)])) : Mem h₁ h ch news := by
  have hs := D.nw (S, oS) (by simp)
  refine ⟨fun b ob e q => ?_, fun p hp => ?_, D.cd, fun p hp => ?_, ?_⟩
  · by_cases hb : b = S
    · subst hb
      rw [hS] at e
      injection e with e
      subst e
      exact hs.1
    · exact D.keep b ob (hideAll_get _ e (by simpa using hb)) q
  · obtain ⟨e1, c, ps, more, ⟨⟨o, vs, q1, q2⟩, q3⟩, e2⟩ := D.ch p hp
    exact ⟨e1, c, ps, more, ⟨⟨o, vs, of_hideAll _ q1, q2⟩, of_hideAll _ q3⟩, e2⟩
  · have z := D.nw p (List.mem_append_left _ hp)
    refine ⟨z.1, ?_⟩
    have hlt : p.1 > S := by
      have o := D.ord
      rw [List.map_append] at o
      exact (List.pairwise_append.mp o).2.2 p.1 (List.mem_map_of_mem hp) S (by simp)
    cases q : h₁.get? p.1 with
    | none => rfl
    | some ob =>
      have := hideAll_get (l := [S]) q (by
        intro e
        have e : p.1 = S := by simpa using e
        exact absurd hlt (by rw [e]; exact Nat.lt_irrefl _))
      rw [z.2] at this
      cases this
  · have o := D.ord
    rw [List.map_append] at o
    exact (List.pairwise_append.mp o).1
noncomputable def notList (p : Addr × Obj) : Bool := match p.2.cls with
  | .type n => decide (n ≠ "list")
  | _ => true
theorem K_noList (w : World) : (KK w).all notList = true := by kernel_rfl
noncomputable def codeTab (K : Frag) (a : Nat) : Option (Value × Option Value) := (look K a).map fun o => (o.cls, match o.data with | .fields vs => vs[11]? | _ => none)
theorem code151 (w : World) : codeTab (KK w) 151 = some (.type "code", some (.ref 147)) := by kernel_rfl
theorem code159 (w : World) : codeTab (KK w) 159 = some (.type "code", some (.ref 155)) := by kernel_rfl
theorem tab147 (w : World) : look (KK w) 147 = some (X.tableObj #[]) := by kernel_rfl
theorem tab155 (w : World) : look (KK w) 155 = some (X.tableObj #[]) := by kernel_rfl
theorem tableAt_of {K : Frag} {h : Heap} {c a : Nat} (hK : K.In h) (hc : codeTab K c = some (.type "code", some (.ref a))) (ha : look K a = some (X.tableObj #[])) : h.TableAt c a #[] := by
  unfold codeTab at hc
  cases q : look K c with
  | none => rw [q] at hc; cases hc
  | some o =>
    rw [q] at hc
    injection hc with hc
    injection hc with h1 h2
    refine ⟨?_, hK _ _ (look_eq _ _ ha)⟩
    cases qd : o.data with
    | fields vs => rw [qd] at h2; exact ⟨o, vs, hK _ _ (look_eq _ _ q), h1, qd, h2⟩
    | _ => rw [qd] at h2; cases h2
theorem law_there (w : World) : (look (KK w) 357).isSome = true := by kernel_rfl
section
variable {w : World} {f₁ f₂ f₃ : Bool} {P : Result → Shared → Prop}
theorem pick_int {vs : Array Value} (hint : ∀ v ∈ vs.toList, ∃ x t, v = Value.int x t) (k : Nat) : ∀ v ∈ (slicePick vs none (some 12) none ++ #[Value.int 7 k]).toList, ∃ x t, v = Value.int x t := by
  intro v hv
  rw [Array.toList_append] at hv
  rcases List.mem_append.mp hv with hv | hv
  · unfold slicePick at hv
    rw [List.toList_toArray] at hv
    obtain ⟨i, _, hi⟩ := List.mem_filterMap.mp hv
    exact hint v (by simpa using Array.mem_of_getElem? hi)
  · exact ⟨7, k, by simpa using hv⟩
theorem execs_cons' (st : Stmt) (rest : List Stmt) (env : Env) : execs (st :: rest) env = (exec st env >>= fun f => match f with
    | .next => execs rest env
    | f => pure f) := by rw [execs_cons]; rfl
theorem law_last {H : Heap} {d : Drawn} {os : OsState} {yL q₁ q₂ : Nat} {F : FrD} {bk : Value} {s : Shared} (hK : KF (wF w f₁ f₂ f₃) H) (I : Inv H d os (tabs q₁ q₂) [(yL + 358, lawFr F bk)] s)
    (hP : ∀ s', Inv H d os (tabs q₁ q₂) [(yL + 358, lawFr F bk)] s' → P (.ok (.ret (.bool true))) s') :
    wpOwn (model PP (wF w f₁ f₂ f₃)) callerA (.func (lawBody (KT w f₁ f₂ f₃)) (lawEnv (KT w f₁ f₂ f₃) (yL + 358))) (xExecs (outerIn (KT w f₁ f₂ f₃)).2.2.2.2.2 (lawEnv (KT w f₁ f₂ f₃) (yL + 358)))
      (fun f s' => f = .ret (.bool true) ∧ P (.ok (.ret (.bool true))) s') (fun _ _ => False) s := by
  have O : (VT w f₁ f₂ f₃ H s.gens d os [] []).Ok := toVT hK (fun _ h => (nomatch h)) trivial (by decide) (by decide)
  refine run_sound O 4000 callerA (.func (lawBody (KT w f₁ f₂ f₃)) (lawEnv (KT w f₁ f₂ f₃) (yL + 358))) Flow (xExecs (outerIn (KT w f₁ f₂ f₃)).2.2.2.2.2 (lawEnv (KT w f₁ f₂ f₃) (yL + 358))) _ s _ _ (fun sk => ?_) (I.rep w f₁ f₂ f₃ [] [] h_LAST)
  have hz := I.size
  have hc : AllP [Dsc.addr (s.heap.objs.size - 358 + 368) (s.heap.objs.size - 358 + 362)] := ⟨d_addr (by omega), trivial⟩
  refine fine_of_sum (t_LAST w f₁ f₂ f₃ H s.gens d os F yL q₁ q₂ bk (s.heap.objs.size - 358) s.toks sk) hc fun st s₄ D₄ hn hm => ?_
  obtain ⟨I₅, _, _⟩ := Inv.of (ps := [(yL + 358, lawFr F bk)]) D₄ (by decide) hn hm (by omega) I.bare (fun _ h => (nomatch h))
  exact ⟨rfl, hP s₄ I₅⟩
theorem law_list {H : Heap} {d : Drawn} {os : OsState} {yL S : Nat} {vs : Array Value} {dd : Option Addr} {nn : Nat} {sl : Array (Option Value)} {F : FrD} {s : Shared} {Q : Value → Shared → Prop} (hK : KF (wF w f₁ f₂ f₃) H) (hsz : vs.size ≤ 1000)
    (I : Inv H d os tabs0 [(yL + 358, lawFr0 { F with sc := .ref S }), (S, lsG dd nn sl vs)] s)
    (next : ∀ s' b k, Inv H d os tabs0 [(b + 362, liObj (b + 361) 0), (b + 361, lsObj (slicePick vs none (some 12) none ++ #[Value.int 7 k])), (yL + 358, lawFr0 { F with sc := .ref S }), (S, lsG dd nn sl vs)] s' → Q (.ref (b + 362)) s') :
    wpOwn (model PP (wF w f₁ f₂ f₃)) callerA (.func (lawBody (KT w f₁ f₂ f₃)) (lawEnv (KT w f₁ f₂ f₃) (yL + 358))) (lawListT (KT w f₁ f₂ f₃) (yL + 358)) Q (fun _ _ => False) s := by
  have O : (VT w f₁ f₂ f₃ H s.gens d os [] []).Ok := toVT hK (fun _ h => (nomatch h)) trivial (by decide) (by decide)
  refine run_sound O 4000 callerA (.func (lawBody (KT w f₁ f₂ f₃)) (lawEnv (KT w f₁ f₂ f₃) (yL + 358))) Value (lawListT (KT w f₁ f₂ f₃) (yL + 358)) _ s _ _ (fun sk => ?_) (I.rep w f₁ f₂ f₃ [] [] h_LAW2)
  have hz := I.size
  have hpk : (slicePick vs none (some 12) none).size ≤ vs.size := slicePick_size_le ..
  have hc : AllP [Dsc.le ((slicePick vs none (some 12) none).size + 1) sizeLine, Dsc.le vs.size sizeLine] := ⟨d_le (by rw [line_eq]; omega), d_le (by rw [line_eq]; omega), trivial⟩
  refine fine_of_sum (t_LAW2 w f₁ f₂ f₃ H s.gens d os F yL S vs dd nn sl (s.heap.objs.size - 358) s.toks sk) hc fun st s₂ D₂ hn hm => ?_
  obtain ⟨I₂, _, _⟩ := Inv.of (ps := [(s.heap.objs.size - 358 + 362, liObj (s.heap.objs.size - 358 + 361) 0), (s.heap.objs.size - 358 + 361, lsObj (slicePick vs none (some 12) none ++ #[Value.int 7 (s.toks + 1)])), (yL + 358, lawFr0 { F with sc := .ref S }), (S, lsG dd nn sl vs)]) D₂ (by decide) hn hm (by omega) I.bare (fun _ h => (nomatch h))
  exact next s₂ _ _ I₂
end
end Mine

namespace Mine
/-- a body that opens with a for -/
theorem func_for {prog : Program} {w : World} {A : Around} {env : Env} {body post : List Stmt} {t e : Expr} {b o : List Stmt} {p : Pos} {P : Result → Shared → Prop} {s : Shared} (hb : body = .For t e b o p :: post) (hf : ∀ x, foldedSetIterable e env x = pure x)
    (H : wpOwn (model prog w) A (.func body env) (forT e p env) (fun it s' => codeAny (model prog w) ((A.under (.func body env)).mark none) (.forLoop t it b o env)
      (fun r s'' => r = .ok .next ∧ wpOwn (model prog w) A (.func body env) (xExecs post env) (fun f s₃ => f = .ret (.bool true) ∧ P (.ok (.ret (.bool true))) s₃) (fun _ _ => False) s'') s') (fun _ _ => False) s) :
    codeAny (model prog w) A (.func body env) P s := by
  refine y_code _ _ _ _ _ _ ?_
  have e3 : denote table (.func body env) = (point >>= fun _ => ((execs body env).onRaise (leaving env)) >>= retF) := by rfl
  have e4 : execs body env = (exec (.For t e b o p) env >>= fun f => match f with
      | .next => execs post env
      | f => pure f) := (congrArg (fun b => execs b env) hb).trans (execs_cons' _ _ _)
  rw [e3, e4]
  refine wpOwn_bind (wpOwn_of_wpAny (wpAny_point ?_))
  refine wpOwn_bind (own_onRaise (wpOwn_bind (own_for hf (wpOwn_mono H (fun it s₁ h₁ => codeAny_mono h₁ fun r s₂ h₂ => ?_) fun _ _ h => h))))
  obtain ⟨rfl, h₂⟩ := h₂
  refine ⟨.next, rfl, ?_⟩
  dsimp only
  rw [xExecs_eq] at h₂
  refine wpOwn_mono h₂ (fun f s₃ h₃ => ?_) fun _ _ h => h.elim
  obtain ⟨rfl, h₃⟩ := h₃
  exact wpOwn_of_wpAny (wpAny_pure h₃)
section
variable {w : World} {f₁ f₂ f₃ : Bool} {P : Result → Shared → Prop}
theorem law_func {h₁ : Heap} {d : Drawn} {os : OsState} {yL S : Nat} {vs : Array Value} {dd : Option Addr} {nn : Nat} {sl : Array (Option Value)} {F : FrD} {s : Shared} (hS : h₁.get? S = some (lsG dd nn sl vs)) (hK₀ : KF (wF w f₁ f₂ f₃) (hideAll h₁ [S])) (hK : KF (wF w f₁ f₂ f₃) h₁)
    (hint : ∀ v ∈ vs.toList, ∃ x t, v = Value.int x t) (hsz : vs.size ≤ 1000)
    (I : Inv (hideAll h₁ [S]) d os tabs0 [(yL + 358, lawFr0 { F with sc := .ref S }), (S, lsG dd nn sl vs)] s)
    (hP : ∀ s' ch, Mem h₁ s'.heap ch [] → AllBare s'.gens → s'.os = os → P (.ok (.ret (.bool true))) s') :
    codeAny (model PP (wF w f₁ f₂ f₃)) callerA (.func (lawBody (KT w f₁ f₂ f₃)) (lawEnv (KT w f₁ f₂ f₃) (yL + 358))) P s := by
  refine func_for (lawBody_eq w f₁ f₂ f₃) (foldO w f₁ f₂ f₃ _) ?_
  rw [A_outer]
  refine law_list (F := F) hK₀ hsz I fun s₂ b k I₂ => ?_
  have I₃ : Inv h₁ d os tabs0 [(b + 362, liObj (b + 361) 0), (b + 361, lsObj (slicePick vs none (some 12) none ++ #[Value.int 7 k])), (yL + 358, lawFr0 { F with sc := .ref S })] s₂ :=
    ⟨mem_unhide (news := [(b + 362, liObj (b + 361) 0), (b + 361, lsObj (slicePick vs none (some 12) none ++ #[Value.int 7 k])), (yL + 358, lawFr0 { F with sc := .ref S })]) hS I₂.mem, I₂.size, I₂.bare, I₂.dr, I₂.os⟩
  have hl : 358 ≤ yL + 358 := Nat.le_add_left _ _
  have hne : 0 < (slicePick vs none (some 12) none ++ #[Value.int 7 k]).size := by rw [Array.size_append]; exact Nat.lt_of_lt_of_le (by decide) (Nat.le_add_left 1 _)
  have hit : s₂.heap.IsListIter (b + 362) (b + 361) 0 := ⟨liObj (b + 361) 0, (I₃.mem.nw (b + 362, liObj (b + 361) 0) (List.mem_cons_self ..)).1, rfl, rfl⟩
  refine outerA (OIT := b + 362) (OL := b + 361) (pick_int hint k) hne hK hl s₂ { F with sc := .ref S } (liObj (b + 361) 0) I₃ hit fun s₃ F₃ bk q₁ q₂ I₄ => ?_
  refine ⟨rfl, law_last hK I₄ fun s₄ I₅ => ?_⟩
  exact hP s₄ _ (mem_sub I₅.mem (List.nil_sublist _)) I₅.bare I₅.os
end
end Mine

namespace Mine
section
variable {w : World} {f₁ f₂ f₃ : Bool} {P : Result → Shared → Prop}
theorem law_ok {s : Shared} {S : Addr} {vs : Array Value} (hl : s.heap.IsList S vs) (hint : ∀ v ∈ vs.toList, ∃ x t, v = Value.int x t) (hsz : vs.size ≤ 1000) (hKX : (KK (wF w f₁ f₂ f₃)).In s.heap) (hg : AllBare s.gens)
    (hP : ∀ s' ch, Mem s.heap s'.heap ch [] → AllBare s'.gens → s'.os = s.os → P (.ok (.ret (.bool true))) s') :
    codeAny (model PP (wF w f₁ f₂ f₃)) callerA (.call (.ref 357) ⟨[.ref S], []⟩) P s := by
  obtain ⟨dd, nn, sl, hS⟩ := isList_open hl
  have hK : KF (wF w f₁ f₂ f₃) s.heap := fun a o _ e => hKX a o e
  have hKS : ∀ a o, (KK (wF w f₁ f₂ f₃)).lookup a = some o → a ≠ S := by
    intro a o e q
    subst q
    have z := hKX a o e
    rw [hS] at z
    injection z with z
    have y := List.all_eq_true.mp (K_noList (wF w f₁ f₂ f₃)) _ (lookup_mem e)
    rw [← z] at y
    exact absurd (show decide ("list" ≠ "list") = true from y) (by decide)
  have hK₀ : KF (wF w f₁ f₂ f₃) (hideAll s.heap [S]) := fun a o _ e => hideAll_get _ (hKX a o e) (by simpa using hKS a o e)
  have hKX₀ : (KK (wF w f₁ f₂ f₃)).In (hideAll s.heap [S]) := fun a o e => hideAll_get _ (hKX a o e) (by simpa using hKS a o e)
  have hsize : 358 ≤ s.heap.objs.size := by
    obtain ⟨o, ho⟩ := Option.isSome_iff_exists.mp (law_there (wF w f₁ f₂ f₃))
    have hlt : 357 < s.heap.objs.size := Heap.lt_size (hKX _ _ (look_eq _ _ ho))
    omega
  have M₀ : Mem (hideAll s.heap [S]) s.heap tabs0 [(S, lsG dd nn sl vs)] := by
    refine ⟨fun b ob e _ => of_hideAll _ e, fun p hp => ?_, by decide, fun p hp => ?_, List.pairwise_singleton ..⟩
    · simp only [tabs0, List.mem_cons, List.not_mem_nil, or_false] at hp
      rcases hp with rfl | rfl
      · exact ⟨hKX _ _ (look_eq _ _ (tab147 _)), 151, #[], #[], tableAt_of hKX₀ (code151 _) (tab147 _), rfl⟩
      · exact ⟨hKX _ _ (look_eq _ _ (tab155 _)), 159, #[], #[], tableAt_of hKX₀ (code159 _) (tab155 _), rfl⟩
    · obtain rfl := List.mem_singleton.mp hp
      exact ⟨hS, hideAll_none _ (List.mem_singleton.mpr rfl)⟩
  have I₀ : Inv (hideAll s.heap [S]) s.drawn s.os tabs0 [(S, lsG dd nn sl vs)] s := ⟨M₀, hsize, hg, rfl, rfl⟩
  have O : (VT w f₁ f₂ f₃ (hideAll s.heap [S]) s.gens s.drawn s.os [] []).Ok := toVT hK₀ (fun _ h => (nomatch h)) trivial (by decide) (by decide)
  refine O.D callerA _ P s ?_
  refine runPh_sound (V := VT w f₁ f₂ f₃ (hideAll s.heap [S]) s.gens s.drawn s.os [] []) (R := run (VT w f₁ f₂ f₃ (hideAll s.heap [S]) s.gens s.drawn s.os [] []) 4000) (run_ext O.ex 4000) (run_sound O 4000) _ _ _ _ _ _ s (fun sk => ?_) (I₀.rep w f₁ f₂ f₃ [] [] h_LAW1)
  have hc : AllP [] := trivial
  refine fine_of_sum (t_LAW1 w f₁ f₂ f₃ (hideAll s.heap [S]) s.gens s.drawn s.os S vs dd nn sl (s.heap.objs.size - 358) s.toks sk) hc fun st s₁ D₁ hn hm => ?_
  obtain ⟨I₁, _, _⟩ := Inv.of (ps := [(s.heap.objs.size - 358 + 358, lawFr0 (FrD.law (wF w f₁ f₂ f₃).params (.ref S) (s.toks + 0))), (S, lsG dd nn sl vs)]) D₁ (by decide) hn hm (by omega) I₀.bare (fun _ h => (nomatch h))
  exact ⟨rfl, law_func (F := FrD.law (wF w f₁ f₂ f₃).params (.ref S) (s.toks + 0)) hS hK₀ hK hint hsz I₁ hP⟩
end
end Mine

namespace Mine
theorem ints_of {vs : List Value} {ns : List Int} (h : IntsAre vs ns) : (∀ v ∈ vs, ∃ x t, v = Value.int x t) ∧ vs.length = ns.length := by
  induction h with
  | nil => exact ⟨fun _ h => (nomatch h), rfl⟩
  | cons n t _ ih =>
    refine ⟨fun v hv => ?_, by rw [List.length_cons, List.length_cons, ih.2]⟩
    rcases List.mem_cons.mp hv with rfl | hv
    · exact ⟨n, t, rfl⟩
    · exact ih.1 v hv
end Mine
theorem PySem.Challenge.cw_io0047_01_holds : PySem.Challenge.rw_io0047_01.Holds := by
  refine Mine.hd ?_
  intro w s₀ s₁ mg mb G Y fa o pm cd doc dV kV ho hd hcd hD hmg hg args vals as hpre hlay hrd hwl hlo
  have KX := kIn_of Y
  refine Ground.open G ?_
  intro T B D TE TW
  wrow_args hpre hlay hrd hwl hlo
  x_fa T KX hmg
  clear ho hd hcd hD T B D TE TW G Y hmg
  rename_i ns _ _ _ _ _ _ _ S vs _ hL _ _ _ hI _ hc _
  obtain ⟨f₁, f₂, f₃, hw⟩ := Mine.wF_self w
  have hlen := (Mine.ints_of hI).2
  have hsz : vs.toArray.size ≤ 1000 := by rw [List.size_toArray, hlen]; omega
  have h := Mine.law_ok (w := w) (f₁ := f₁) (f₂ := f₂) (f₃ := f₃) (s := s₁) (S := S) (vs := vs.toArray) (P := GoodWG PySem.Challenge.rw_io0047_01.row.claim (classAt s₀.heap) (ExcName.means s₀.heap) [ofPy (PyData.list (List.map PyData.int ns))] s₁)
    hL (fun v hv => (Mine.ints_of hI).1 v (by simpa using hv)) hsz (by rw [← hw]; exact KX) (AllBare.of_eq hg) (fun s' ch D hb hos => by
      obtain ⟨h', g', d', t', os'⟩ := s'
      dsimp only at hos
      subst hos
      exact x_endG D (fun _ => rfl) (by first | rfl | wrow_post) hb)
  rw [← hw] at h
  exact enter_call h
