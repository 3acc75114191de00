import PyProof.Rows.All
import Wide.All
import OpenK.AllK
import Wide.FinOn
import Lean
import PySem.Challenge.RW_ab5042_01
set_option Elab.async false

section
set_option maxRecDepth 100000
set_option maxHeartbeats 4000000
set_option linter.unusedVariables false
namespace Mine
open PySem PySem.W PySem.Calls PyProof.Rows

/-! a tree of objects from a list of them -/
def alt {α : Type} : List α → List α × List α
  | [] => ([], [])
  | x :: r => match alt r with
    | (a, b) => (x :: b, a)
theorem alt_get {α : Type} : ∀ (l : List α) (j : Nat), (alt l).1[j]? = l[2 * j]? ∧ (alt l).2[j]? = l[2 * j + 1]?
  | [], j => by simp [alt]
  | x :: r, j => by
    have ih := alt_get r
    show (x :: (alt r).2)[j]? = _ ∧ (alt r).1[j]? = _
    constructor
    · cases j with
      | zero => rfl
      | succ j =>
        rw [List.getElem?_cons_succ, (ih j).2, show 2 * (j + 1) = (2 * j + 1) + 1 by omega, List.getElem?_cons_succ]
    · rw [(ih j).1, List.getElem?_cons_succ]
theorem alt_len {α : Type} : ∀ l : List α, (alt l).1.length ≤ l.length ∧ (alt l).2.length ≤ l.length
  | [] => ⟨Nat.le_refl _, Nat.le_refl _⟩
  | x :: r => by
    have := alt_len r
    show (x :: (alt r).2).length ≤ _ ∧ (alt r).1.length ≤ _
    simp only [List.length_cons]
    omega
def bld : Nat → List Obj → BT
  | 0, _ => .nil
  | _ + 1, [] => .nil
  | f + 1, o :: r => match alt r with
    | (a, b) => .node o (bld f a) (bld f b)
theorem bld_get : ∀ (f : Nat) (l : List Obj), l.length ≤ f → ∀ i, (bld f l).get i = l[i]?
  | 0, [], _, i => by simp [bld, BT.get]
  | 0, _ :: _, h, _ => by simp at h
  | f + 1, [], _, i => by simp [bld, BT.get]
  | f + 1, o :: r, h, i => by
    have hl := alt_len r
    have hr : r.length ≤ f := by simp at h; omega
    show (BT.node o (bld f (alt r).1) (bld f (alt r).2)).get i = _
    rw [BT.get_node, bld_get f _ (by omega), bld_get f _ (by omega)]
    by_cases h0 : i = 0
    · subst h0; rfl
    · rw [if_neg h0]
      obtain ⟨j, rfl⟩ : ∃ j, i = j + 1 := ⟨i - 1, by omega⟩
      rw [List.getElem?_cons_succ]
      by_cases h1 : (j + 1) % 2 = 1
      · rw [if_pos h1, (alt_get r _).1]
        congr 1; omega
      · rw [if_neg h1, (alt_get r _).2]
        congr 1; omega
theorem bld_heap (h : Heap) : absHeap (bld h.objs.size h.objs.toList) h.objs.size h.life = h := by
  obtain ⟨os, life⟩ := h
  unfold absHeap
  congr 1
  apply Array.ext_getElem?
  intro i
  have := absHeap_at (bld os.size os.toList) os.size life i
  unfold absHeap at this
  rw [this, bld_get _ _ (by simp)]
  by_cases hi : i < os.size
  · rw [if_pos hi]
    simp [hi]
  · rw [if_neg hi]
    simp; omega
def ofS (s : Shared) : SharedT := ⟨bld s.heap.objs.size s.heap.objs.toList, s.heap.objs.size, s.heap.life, s.gens, s.drawn, s.toks, s.os⟩
theorem ofS_abs (s : Shared) : (ofS s).abs = s := by
  obtain ⟨h, g, d, t, os⟩ := s
  show (⟨absHeap (bld h.objs.size h.objs.toList) h.objs.size h.life, g, d, t, os⟩ : Shared) = _
  rw [bld_heap]

/-! the opening and the top, run over trees -/
section
variable {tb : String → Option Builtin} {p : Program} {w : World} {n₀ : Nat} {ann : Option Value}
def openT (tb : String → Option Builtin) (p : Program) (w : World) : Nat → SharedT → Thread → Option SharedT
  | 0, _, _ => none
  | n + 1, s, t => match t.atExitBegin with
    | some [] => some s
    | some (_ :: _) => none
    | none => match stepT (denote tb) p w s t with
      | some (s', t') => openT tb p w n s' t'
      | none => none
theorem openT_of : ∀ {n : Nat} {s s' : SharedT} {t : Thread}, openT tb p w n s t = some s' → importEnds tb p w n s.abs t = some s'.abs
  | 0, _, _, _, h => by cases h
  | n + 1, s, s', t, h => by
    unfold openT at h
    unfold importEnds
    cases he : t.atExitBegin with
    | some x => cases x with
      | nil => rw [he] at h; cases h; rfl
      | cons _ _ => rw [he] at h; cases h
    | none =>
      rw [he] at h
      cases hs : stepT (denote tb) p w s t with
      | none => rw [hs] at h; cases h
      | some r => obtain ⟨s₂, t₂⟩ := r; rw [hs] at h; dsimp only; rw [stepT_spec hs]; exact openT_of h
def runT (tb : String → Option Builtin) (p : Program) (w : World) (n₀ : Nat) (ann : Option Value) : Nat → SharedT → Thread → Option SharedT
  | 0, _, _ => none
  | n + 1, s, t => match through t with
    | true => some s
    | false => match stepOk n₀ ann t with
      | false => none
      | true => match stepT (denote tb) p w s t with
        | some (s', t') => runT tb p w n₀ ann n s' t'
        | none => none
theorem runT_of : ∀ {n : Nat} {s s' : SharedT} {t : Thread}, runT tb p w n₀ ann n s t = some s' → topRun tb p w n₀ ann n s.abs t = some s'.abs
  | 0, _, _, _, h => by cases h
  | n + 1, s, s', t, h => by
    unfold runT at h
    unfold topRun
    cases he : through t with
    | true => rw [he] at h; cases h; rfl
    | false =>
      rw [he] at h
      dsimp only at h ⊢
      cases hk : stepOk n₀ ann t with
      | false => rw [hk] at h; cases h
      | true =>
        rw [hk] at h
        cases hs : stepT (denote tb) p w s t with
        | none => rw [hs] at h; cases h
        | some r => obtain ⟨s₂, t₂⟩ := r; rw [hs] at h; dsimp only; rw [stepT_spec hs]; exact runT_of h
end
end Mine
end

section
set_option maxRecDepth 100000
set_option maxHeartbeats 0
set_option Elab.async false
set_option linter.unusedVariables false
namespace Mine
open PySem PySem.W PySem.Calls PyProof.Rows
def evalT {β : Type} (p : Program) (N : Nat) (lk : Shared → Shared → β) (w : World) : Option β :=
  match openT treeTable (opening p) w N (ofS (start (opening p)).1) (start (opening p)).2 with
  | none => none
  | some s => match fenceModules? p s.abs with
    | none => none
    | some s0 => match s0.heap.isNs mainGlobals && s0.gens.size == 0 with
      | false => none
      | true => match runT treeTable p w s0.heap.objs.size (s0.heap.nsMap mainGlobals "__annotations__") N (ofS s0) (topStub p) with
        | none => none
        | some s1 => some (lk s0 s1.abs)
theorem evalT_of {β : Type} {p : Program} {N : Nat} {lk : Shared → Shared → β} {w : World} {r : β} (h : evalT p N lk w = some r) :
    ∃ s0 s1, fencedOpening treeTable p w N = some s0 ∧ (s0.heap.isNs mainGlobals && s0.gens.size == 0) = true ∧ topRun treeTable p w s0.heap.objs.size (s0.heap.nsMap mainGlobals "__annotations__") N s0 (topStub p) = some s1 ∧ lk s0 s1 = r := by
  unfold evalT at h
  split at h
  · cases h
  rename_i s hs
  have h1 := openT_of hs
  rw [ofS_abs] at h1
  split at h
  · cases h
  rename_i s0 h0
  split at h
  · cases h
  rename_i hg
  split at h
  · cases h
  rename_i s1 hr
  have h2 := runT_of hr
  rw [ofS_abs] at h2
  exact ⟨s0, s1.abs, by unfold fencedOpening; rw [h1]; exact h0, hg, h2, Option.some.inj h⟩
theorem left_of {p q : Program} {loose : List Str} {Xt : Shared → Bool} {α : Type} {Yf : Shared → α} {Ya : World → α} {N : Nat}
    (h : ∀ w, evalT p N (fun s0 s1 => ((staticsOk (importedModules p.main.body) s0.heap s1.heap && namesBound p s1.heap && gensDone s1 && laidKept s0.heap s1.heap), openSeen q loose (importedModules p.main.body) Xt true s1, Yf s1)) w = some (true, openGood q loose, Ya w)) :
    LeftO p q loose Xt Yf Ya N := fun w => by
  obtain ⟨s0, s1, h1, h2, h3, h4⟩ := evalT_of (h w)
  obtain ⟨e1, e2⟩ := Prod.mk.inj h4
  obtain ⟨e2, e3⟩ := Prod.mk.inj e2
  unfold openEnds
  rw [h1]
  show (topFrom treeTable p w N s0).map _ = _
  unfold topFrom
  rw [h2]
  dsimp only
  rw [h3]
  show (match staticsOk (importedModules p.main.body) s0.heap s1.heap && namesBound p s1.heap && gensDone s1 && laidKept s0.heap s1.heap with | true => some s1 | false => none).map _ = _
  rw [e1]
  exact congrArg some (Prod.ext e2 e3)

end Mine
end

section
set_option maxRecDepth 100000
set_option maxHeartbeats 0
set_option Elab.async false
set_option linter.unusedVariables false
namespace Mine
open PySem PySem.W PySem.Calls PyProof.Rows
def keepL : List Nat := [0, 1, 3, 4, 5, 6, 7, 8, 10, 17, 18, 19, 20, 21, 22, 26, 27, 30, 31, 32, 33, 34, 36, 37, 39, 41, 43, 44, 45]
def qv : Program := view PySem.Challenge.pw_ab5042_01 keepL
def looseL : List Str := [Str.ofString "dijkstra_path", Str.ofString "single_source_dijkstra_path_length",
      Str.ofString "single_source_dijkstra", Str.ofString "multi_source_dijkstra_path_length",
      Str.ofString "multi_source_dijkstra", Str.ofString "islice", Str.ofString "count",
      Str.ofString "_dijkstra_multisource", Str.ofString "AtlasView", Str.ofString "AdjacencyView",
      Str.ofString "_nbunch_iter", Str.ofString "NodeView", Str.ofString "OutEdgeDataView", Str.ofString "EdgeDataView",
      Str.ofString "OutEdgeView", Str.ofString "EdgeView", Str.ofString "_NOT_FOUND", Str.ofString "cached_property",
      Str.ofString "Graph", Str.ofString "DiGraph"]
def xt (s : Shared) : Bool := xlAt qv [] s && recOk (RowW.records PySem.Challenge.rw_ab5042_01.row.toRowW) s
def evLook (w : World) := evalT PySem.Challenge.pw_ab5042_01 22088 (fun s0 s1 => ((staticsOk (importedModules PySem.Challenge.pw_ab5042_01.main.body) s0.heap s1.heap && namesBound PySem.Challenge.pw_ab5042_01 s1.heap && gensDone s1 && laidKept s0.heap s1.heap), openSeen qv looseL (importedModules PySem.Challenge.pw_ab5042_01.main.body) xt true s1)) w
def goodL := some (true, openGood qv looseL)
end Mine
lay_quick Mine.evLook Mine.goodL
end

section
set_option maxRecDepth 100000
set_option maxHeartbeats 0
set_option Elab.async false
namespace Mine
open PySem PySem.W PySem.Calls PyProof.Rows
theorem look_tw (w : World) : PySem.W.Fast.tw9535967878941326904 w = PySem.W.Fast.tw13944886297612124281 := by kernel_rfl
end Mine
end

section
set_option maxRecDepth 100000
set_option maxHeartbeats 0
set_option Elab.async false
set_option linter.unusedVariables false
namespace Mine
open PySem PySem.W PySem.Calls PyProof.Rows
def evObs (as ts : List Addr) (w : World) := evalT PySem.Challenge.pw_ab5042_01 22088 (fun _ s1 => (as.map s1.heap.get?, ts.map s1.heap.get?)) w
theorem evalT_map {β : Type} {p : Program} {N : Nat} {lk : Shared → Shared → β} {w : World} : evalT p N lk w = (evalT p N (fun a b => (a, b)) w).map fun x => lk x.1 x.2 := by
  unfold evalT
  split
  · rfl
  split
  · rfl
  split
  · rfl
  split <;> rfl
theorem evalT_both {β γ : Type} {p : Program} {N : Nat} {l1 : Shared → Shared → β} {l2 : Shared → Shared → γ} {w : World} {r1 : β} {r2 : γ} (h1 : evalT p N l1 w = some r1) (h2 : evalT p N l2 w = some r2) :
    evalT p N (fun a b => (l1 a b, l2 a b)) w = some (r1, r2) := by
  rw [evalT_map] at h1 h2 ⊢
  cases h : evalT p N (fun a b => (a, b)) w with
  | none => rw [h] at h1; cases h1
  | some x =>
    rw [h] at h1 h2
    have e1 : l1 x.1 x.2 = r1 := Option.some.inj h1
    have e2 : l2 x.1 x.2 = r2 := Option.some.inj h2
    show some (l1 x.1 x.2, l2 x.1 x.2) = _
    rw [e1, e2]
end Mine
namespace Mine
open PySem PySem.W PySem.Calls PyProof.Rows
theorem look_ev (w : World) : evLook w = some (true, openGood qv looseL) := by
  have h := look_tw w
  rw [← PySem.W.Fast.te9535967878941326904, ← PySem.W.Fast.te13944886297612124281] at h
  exact h
theorem left_all {K : Params → Frag} {as ts : List Addr} (e : ∀ P, as = (K P).map (·.1))
    (hK : ∀ w, evObs ((K w.params).map (·.1)) ts w = some ((K w.params).map fun p => some p.2, ts.map fun _ => some (tabObj #[]))) :
    LeftO PySem.Challenge.pw_ab5042_01 qv looseL xt (Hook.obs (kmHook K as e ts)) (Hook.val (kmHook K as e ts)) 22088 := by
  refine left_of fun w => ?_
  have hK' := hK w
  rw [← e w.params] at hK'
  have h := evalT_both (look_ev w) hK'
  have h2 := congrArg (Option.map fun x => (x.1.1, x.1.2, x.2)) h
  rw [evalT_map] at h2 ⊢
  cases h3 : evalT PySem.Challenge.pw_ab5042_01 22088 (fun a b => (a, b)) w with
  | none => rw [h3] at h2; cases h2
  | some x => rw [h3] at h2; exact h2
theorem head_and {H : Hook} {K : Params → Frag} {as ts : List Addr} {e : ∀ P, as = (K P).map (·.1)} (eH : H = kmHook K as e ts) {d : DefRec} {kwd : List (Str × PySem.Expr)}
    (hdef : defOf qv (PySem.Challenge.rw_ab5042_01.row).name = some (d, kwd)) (hp : (PySem.Challenge.rw_ab5042_01.row).prog.theDef (PySem.Challenge.rw_ab5042_01.row).name = some (d.params, d.body, d.scope)) (hk : kwWritten? d.params.kwonlyargs d.params.kw_defaults = some kwd)
    (k1 : (PySem.Challenge.rw_ab5042_01.row).wellSaid = true) (hw : (PySem.Challenge.rw_ab5042_01.row).toRowW.promised)
    (z : (∀ w, evObs ((K w.params).map (·.1)) ts w = some ((K w.params).map fun p => some p.2, ts.map fun _ => some (tabObj #[]))) ∧ WalkO qv looseL (XL qv []) H.says (PySem.Challenge.rw_ab5042_01.row).toRowW d kwd fun f vs => PySem.call f vs) : (PySem.Challenge.rw_ab5042_01.row).Holds := by
  subst eH
  exact holds_open (q := qv) (loose := looseL) (Xt := xt) (XP := XL qv []) (Yf := Hook.obs _) (Ya := Hook.val _) (YP := Hook.says _) (N := 22088) (left_all e z.1) (Hook.of _) (Hook.keeps _) (fun s e => xl_of s (Bool.and_eq_true_iff.mp e).1) XL.keeps hdef hp hk (fun s e => recFacts_of (Bool.and_eq_true_iff.mp e).2) (by rfl) k1 (by decide +kernel) ⟨rfl, rfl, rfl, rfl, rfl, by decide +kernel⟩ hw z.2
end Mine
end

section
set_option maxRecDepth 100000
set_option maxHeartbeats 0
set_option Elab.async false
set_option linter.unusedVariables false
open PySem PySem.W PyProof.Rows Mine
set_option hygiene false in
local macro_rules | `(tactic| o_head $H) => `(tactic| (
  refine Mine.head_and (H := $H) rfl (by rfl) (by rfl) (by rfl) (by first | assumption | decide +kernel) ?hw ?hc))
namespace Mine
open_top hd for PySem.Challenge.rw_ab5042_01
/-- the fragment in parts -/
def prt {α : Type} (i : Nat) (l : List α) : List α := match i with
  | 0 => l.take 110
  | 1 => (l.drop 110).take 110
  | 2 => (l.drop 220).take 110
  | 3 => (l.drop 330).take 110
  | 4 => (l.drop 440).take 110
  | _ => l.drop 550
theorem prt_all {α : Type} (l : List α) : prt 0 l ++ (prt 1 l ++ (prt 2 l ++ (prt 3 l ++ (prt 4 l ++ prt 5 l)))) = l := by
  show l.take 110 ++ ((l.drop 110).take 110 ++ ((l.drop 220).take 110 ++ ((l.drop 330).take 110 ++ ((l.drop 440).take 110 ++ l.drop 550)))) = l
  have e1 : l.drop 550 = (l.drop 440).drop 110 := by rw [List.drop_drop]
  have e2 : l.drop 440 = (l.drop 330).drop 110 := by rw [List.drop_drop]
  have e3 : l.drop 330 = (l.drop 220).drop 110 := by rw [List.drop_drop]
  have e4 : l.drop 220 = (l.drop 110).drop 110 := by rw [List.drop_drop]
  rw [e1, List.take_append_drop, e2, List.take_append_drop, e3, List.take_append_drop, e4, List.take_append_drop, List.take_append_drop]
noncomputable def evK (i : Nat) (w : World) := evalT PySem.Challenge.pw_ab5042_01 22088 (fun _ s1 => ((prt i (hd.heap_39 w.params)).map fun p => s1.heap.get? p.1, ([363, 438, 124] : List Addr).map s1.heap.get?)) w
noncomputable def goodK (i : Nat) (w : World) : Option (List (Option Obj) × List (Option Obj)) := some ((prt i (hd.heap_39 w.params)).map fun p => some p.2, ([363, 438, 124] : List Addr).map fun _ => some (tabObj #[]))
end Mine
lay_quick Mine.evK Mine.goodK
end

section
set_option maxRecDepth 100000
set_option maxHeartbeats 0
set_option Elab.async false
namespace Mine
open PySem PySem.W PySem.Calls PyProof.Rows
theorem obs0 (w : World) : PySem.W.Fast.tw16227838386939644315 0 w = PySem.W.Fast.tw4839367505387866993 0 w := by kernel_rfl
theorem obs1 (w : World) : PySem.W.Fast.tw16227838386939644315 1 w = PySem.W.Fast.tw4839367505387866993 1 w := by kernel_rfl
theorem obs2 (w : World) : PySem.W.Fast.tw16227838386939644315 2 w = PySem.W.Fast.tw4839367505387866993 2 w := by kernel_rfl
theorem obs3 (w : World) : PySem.W.Fast.tw16227838386939644315 3 w = PySem.W.Fast.tw4839367505387866993 3 w := by kernel_rfl
theorem obs4 (w : World) : PySem.W.Fast.tw16227838386939644315 4 w = PySem.W.Fast.tw4839367505387866993 4 w := by kernel_rfl
theorem obs5 (w : World) : PySem.W.Fast.tw16227838386939644315 5 w = PySem.W.Fast.tw4839367505387866993 5 w := by kernel_rfl
theorem obs_un {i : Nat} {w : World} (h : PySem.W.Fast.tw16227838386939644315 i w = PySem.W.Fast.tw4839367505387866993 i w) : evK i w = goodK i w := by
  rw [← PySem.W.Fast.te16227838386939644315, ← PySem.W.Fast.te4839367505387866993] at h; exact h
theorem hd_obs : ∀ w : World, evObs ((hd.heap_39 w.params).map (·.1)) [363, 438, 124] w = some ((hd.heap_39 w.params).map fun p => some p.2, ([363, 438, 124] : List Addr).map fun _ => some (tabObj #[])) := fun w => by
  have h0 := obs_un (obs0 w)
  have h1 := obs_un (obs1 w)
  have h2 := obs_un (obs2 w)
  have h3 := obs_un (obs3 w)
  have h4 := obs_un (obs4 w)
  have h5 := obs_un (obs5 w)
  unfold evK goodK at h0 h1 h2 h3 h4 h5
  unfold evObs
  rw [evalT_map] at h0 h1 h2 h3 h4 h5 ⊢
  generalize hd.heap_39 w.params = L at *
  cases h : evalT PySem.Challenge.pw_ab5042_01 22088 (fun a b => (a, b)) w with
  | none => rw [h] at h0; cases h0
  | some x =>
    rw [h] at h0 h1 h2 h3 h4 h5
    obtain ⟨a0, t0⟩ := Prod.mk.inj (Option.some.inj h0)
    obtain ⟨a1, _⟩ := Prod.mk.inj (Option.some.inj h1)
    obtain ⟨a2, _⟩ := Prod.mk.inj (Option.some.inj h2)
    obtain ⟨a3, _⟩ := Prod.mk.inj (Option.some.inj h3)
    obtain ⟨a4, _⟩ := Prod.mk.inj (Option.some.inj h4)
    obtain ⟨a5, _⟩ := Prod.mk.inj (Option.some.inj h5)
    have hL : (L.map (·.1)).map x.2.heap.get? = L.map fun p => some p.2 := by
      rw [List.map_map]
      show L.map (fun p => x.2.heap.get? p.1) = _
      rw [← prt_all L]
      simp only [List.map_append]
      rw [a0, a1, a2, a3, a4, a5]
    exact congrArg some (Prod.ext hL t0)
end Mine
end

section
set_option maxRecDepth 100000
set_option linter.unusedVariables false
set_option maxHeartbeats 400000
namespace Mine
open PySem PySem.W PySem.Calls PyProof.Rows

/-- what is said of one object -/
abbrev Assn := Obj → Prop

/-- a frame's names by their places -/
def fm : List Str → List (Option Value) → Str → Option Value
  | n :: ns, v :: vs => fun y => if y = n then v else fm ns vs y
  | _, _ => fun _ => none

theorem fm_get {x : Str} {v : Option Value} : ∀ {ns : List Str} {vs : List (Option Value)} {i : Nat}, ns.Nodup → ns[i]? = some x → vs[i]? = some v → fm ns vs x = v
  | [], _, i, _, h, _ => by simp at h
  | n :: ns, [], i, _, _, h => by simp at h
  | n :: ns, w :: vs, 0, _, h, h' => by
    simp at h h'
    subst h; subst h'
    simp [fm]
  | n :: ns, w :: vs, i + 1, hn, h, h' => by
    simp at h h'
    have hx : x ∈ ns := List.mem_of_getElem? h
    have hne : x ≠ n := fun e => (List.nodup_cons.mp hn).1 (e ▸ hx)
    simp only [fm, if_neg hne]
    exact fm_get (List.nodup_cons.mp hn).2 h h'
theorem fm_none {x : Str} : ∀ {ns : List Str} {vs : List (Option Value)}, x ∉ ns → fm ns vs x = none
  | [], _, _ => rfl
  | n :: ns, [], _ => rfl
  | n :: ns, w :: vs, h => by
    have hne : x ≠ n := fun e => h (e ▸ List.mem_cons_self)
    simp only [fm, if_neg hne]
    exact fm_none fun e => h (List.mem_cons_of_mem _ e)
theorem fm_set {x : Str} {v : Option Value} : ∀ {ns : List Str} {vs : List (Option Value)} {i : Nat}, ns.Nodup → ns[i]? = some x → i < vs.length → (fun y => if y = x then v else fm ns vs y) = fm ns (vs.set i v)
  | [], _, i, _, h, _ => by simp at h
  | n :: ns, [], i, _, _, h => by simp at h
  | n :: ns, w :: vs, 0, _, h, h' => by
    simp at h
    subst h
    funext y
    by_cases e : y = n <;> simp [fm, e]
  | n :: ns, w :: vs, i + 1, hn, h, h' => by
    simp at h h'
    have hx : x ∈ ns := List.mem_of_getElem? h
    have hne : x ≠ n := fun e => (List.nodup_cons.mp hn).1 (e ▸ hx)
    funext y
    have ih := congrFun (fm_set (v := v) (List.nodup_cons.mp hn).2 h h') y
    simp only [fm, List.set_cons_succ]
    by_cases e : y = n
    · subst e; simp [Ne.symm hne]
    · simp only [if_neg e]; exact ih

theorem fm_binds : ∀ {ns : List Str} {vs : List (Option Value)} {bs : List (Str × Value)}, ns.Nodup → ns.length = vs.length → (bs.map (·.1)).Nodup → (∀ p ∈ bs, ∃ i : Nat, ns[i]? = some p.1 ∧ vs[i]? = some (some p.2)) →
    (∀ (i : Nat) x v, ns[i]? = some x → vs[i]? = some (some v) → (x, v) ∈ bs) → (fun y => bs.reverse.lookup y) = fm ns vs := by
  intro ns vs bs hn hl hb h1 h2
  funext y
  cases hq : bs.reverse.lookup y with
  | some v =>
    have hm : (y, v) ∈ bs := List.mem_reverse.mp (by
      have := List.lookup_eq_some_iff.mp hq
      obtain ⟨l₁, l₂, e, _⟩ := this
      rw [e]; simp)
    obtain ⟨i, a, b⟩ := h1 _ hm
    exact (fm_get hn a b).symm
  | none =>
    by_cases hy : y ∈ ns
    · obtain ⟨i, hi⟩ := List.getElem?_of_mem hy
      have hlt : i < vs.length := hl ▸ (List.getElem?_eq_some_iff.mp hi).1
      obtain ⟨w, hw⟩ : ∃ w, vs[i]? = some w := ⟨vs[i], by simp [hlt]⟩
      rw [fm_get hn hi hw]
      cases w with
      | none => rfl
      | some v =>
        have := h2 i y v hi hw
        rw [List.lookup_eq_none_iff] at hq
        have := hq (y, v) (List.mem_reverse.mpr this)
        simp at this
    · exact (fm_none hy).symm

/-- the ledger: objects of this call's own (or lent to it), each with what is known of it -/
def Led (h₀ : Heap) (L : Addr) (h : Heap) (l : List (Addr × Assn)) : Prop :=
  (∀ p ∈ l, (∃ o, h.get? p.1 = some o ∧ p.2 o) ∧ p.1 ≠ L ∧ h₀.get? p.1 = none ∧ (p.1 == sysModules) = false) ∧ (l.map (·.1)).Nodup

theorem Led.nil {h₀ h : Heap} {L : Addr} : Led h₀ L h [] := ⟨fun _ h => (nomatch h), List.nodup_nil⟩

structure St (h₀ : Heap) (L : Addr) (ns : List Str) (vs : List (Option Value)) (l : List (Addr × Assn)) (b s : Shared) : Prop where
  F : Fr h₀ L s.heap (fm ns vs)
  N : Led h₀ L s.heap l
  len : vs.length = ns.length
  low : sysModules < h₀.objs.size
  g : s.gens = b.gens
  d : s.drawn = b.drawn
  o : s.os = b.os

/-- what a frame's environment is -/
structure Ev (env : Env) (L : Addr) (ns : List Str) : Prop where
  kind : env.scope.kind = .function
  loc : env.locals = L
  names : ∀ x ∈ ns, env.scope.names.lookup x = some .local
  dbg : ∀ x ∈ ns, (x == ("__debug__" : Str)) = false
  nd : ns.Nodup
  glob : env.globals = mainGlobals
  blt : env.builtins = builtinsNs

section
variable {h₀ : Heap} {L : Addr} {ns : List Str} {vs : List (Option Value)} {l : List (Addr × Assn)} {b s : Shared}

theorem St.tok (S : St h₀ L ns vs l b s) (t : Nat) : St h₀ L ns vs l b { s with toks := t } := ⟨S.F, S.N, S.len, S.low, S.g, S.d, S.o⟩

theorem St.at (S : St h₀ L ns vs l b s) {i : Nat} {a : Addr} {P : Assn} (hi : l[i]? = some (a, P)) : ∃ o, s.heap.get? a = some o ∧ P o := (S.N.1 _ (List.mem_of_getElem? hi)).1
theorem St.lo (S : St h₀ L ns vs l b s) {i : Nat} {a : Addr} {P : Assn} (hi : l[i]? = some (a, P)) : (a == sysModules) = false := (S.N.1 _ (List.mem_of_getElem? hi)).2.2.2

theorem Led.keep {h h' : Heap} (N : Led h₀ L h l) (k : ∀ p ∈ l, ∀ o, h.get? p.1 = some o → h'.get? p.1 = some o) : Led h₀ L h' l :=
  ⟨fun p hp => let ⟨⟨o, a, c⟩, r⟩ := N.1 p hp; ⟨⟨o, k p hp o a, c⟩, r⟩, N.2⟩
theorem St.L_get (S : St h₀ L ns vs l b s) : ∃ o, s.heap.get? L = some o := let ⟨o, _, _, a, _⟩ := S.F.ns; ⟨o, a⟩

/-- all that stood is kept -/
theorem St.keep (S : St h₀ L ns vs l b s) {s' : Shared} (k : ∀ a o, s.heap.get? a = some o → s'.heap.get? a = some o) (hg : s'.gens = s.gens) (hd : s'.drawn = s.drawn) (ho : s'.os = s.os) : St h₀ L ns vs l b s' :=
  ⟨⟨S.F.ns.keeps k, fun a o e => k a o (S.F.keep a o e), S.F.above⟩, S.N.keep fun p _ o e => k _ o e, S.len, S.low, hg.trans S.g, hd.trans S.d, ho.trans S.o⟩

theorem St.weaken (S : St h₀ L ns vs l b s) {l' : List (Addr × Assn)} (hs : ∀ p ∈ l', ∃ q ∈ l, q.1 = p.1 ∧ ∀ o, q.2 o → p.2 o) (hn : (l'.map (·.1)).Nodup) : St h₀ L ns vs l' b s :=
  ⟨S.F, ⟨fun p hp => let ⟨q, hq, e, k⟩ := hs p hp; let ⟨⟨o, a, c⟩, r1, r2, r3⟩ := S.N.1 q hq; ⟨⟨o, e ▸ a, k o c⟩, e ▸ r1, e ▸ r2, e ▸ r3⟩, hn⟩, S.len, S.low, S.g, S.d, S.o⟩
theorem St.tl {p : Addr × Assn} (S : St h₀ L ns vs (p :: l) b s) : St h₀ L ns vs l b s :=
  S.weaken (fun q hq => ⟨q, List.mem_cons_of_mem _ hq, rfl, fun _ h => h⟩) (List.nodup_cons.mp S.N.2).2
theorem St.swap {p q : Addr × Assn} (S : St h₀ L ns vs (p :: q :: l) b s) : St h₀ L ns vs (q :: p :: l) b s :=
  S.weaken (fun r hr => ⟨r, by
    rcases List.mem_cons.mp hr with rfl | hr
    · simp
    · rcases List.mem_cons.mp hr with rfl | hr
      · simp
      · simp [hr], rfl, fun _ h => h⟩) (by
    have := S.N.2
    simp only [List.map_cons, List.nodup_cons, List.mem_cons, not_or] at this ⊢
    exact ⟨⟨Ne.symm this.1.1, this.2.1⟩, this.1.2, this.2.2⟩)

theorem St.lowS (S : St h₀ L ns vs l b s) : sysModules < s.heap.objs.size := Nat.lt_of_lt_of_le S.low (Nat.le_trans S.F.above (Nat.le_of_lt S.F.ns.lt))

theorem St.push (S : St h₀ L ns vs l b s) (o : Obj) : St h₀ L ns vs l b { s with heap := s.heap.push o } :=
  S.keep (fun a o' e => Heap.get?_push_of_some _ e) rfl rfl rfl
theorem St.fresh (S : St h₀ L ns vs l b s) : h₀.get? s.heap.objs.size = none := by
  cases hq : h₀.get? s.heap.objs.size with
  | none => rfl
  | some o => exact absurd (Heap.lt_size (S.F.keep _ _ hq)) (Nat.lt_irrefl _)
theorem St.add (S : St h₀ L ns vs l b s) {a : Addr} {P : Assn} {o : Obj} (ho : s.heap.get? a = some o) (hP : P o) (h0 : h₀.get? a = none) (hL : a ≠ L) (hm : (a == sysModules) = false) (hn : a ∉ l.map (·.1)) : St h₀ L ns vs ((a, P) :: l) b s :=
  ⟨S.F, ⟨fun p hp => by
    rcases List.mem_cons.mp hp with rfl | hp
    · exact ⟨⟨o, ho, hP⟩, hL, h0, hm⟩
    · exact S.N.1 p hp, List.nodup_cons.mpr ⟨hn, S.N.2⟩⟩, S.len, S.low, S.g, S.d, S.o⟩
theorem St.notin (S : St h₀ L ns vs l b s) : s.heap.objs.size ∉ l.map (·.1) := fun h => by
  obtain ⟨p, hp, e⟩ := List.mem_map.mp h
  obtain ⟨⟨o, a, _⟩, _⟩ := S.N.1 p hp
  exact absurd (Heap.lt_size a) (by rw [e]; exact Nat.lt_irrefl _)
/-- a new object onto the ledger -/
theorem St.alloc (S : St h₀ L ns vs l b s) {P : Assn} {o : Obj} (hP : P o) (hf : o.isFreed = false) : St h₀ L ns vs ((s.heap.objs.size, P) :: l) b { s with heap := s.heap.push o } := by
  have S' := S.push o
  refine S'.add (Heap.get?_push_size _ hf) hP S.fresh (Nat.ne_of_gt S.F.ns.lt) (beq_eq_false_iff_ne.mpr (Nat.ne_of_gt S.lowS)) S.notin
/-- any new object of a later heap -/
theorem St.adopt (S : St h₀ L ns vs l b s) {s' : Shared} {a : Addr} {P : Assn} {o : Obj} (k : ∀ a o, s.heap.get? a = some o → s'.heap.get? a = some o) (hg : s'.gens = s.gens) (hd : s'.drawn = s.drawn) (hos : s'.os = s.os)
    (ha : s.heap.get? a = none) (ho : s'.heap.get? a = some o) (hP : P o) (hbig : sysModules ≠ a) : St h₀ L ns vs ((a, P) :: l) b s' := by
  refine (S.keep k hg hd hos).add ho hP ?_ ?_ (beq_eq_false_iff_ne.mpr (Ne.symm hbig)) ?_
  · cases hq : h₀.get? a with
    | none => rfl
    | some o => rw [S.F.keep _ _ hq] at ha; cases ha
  · rintro rfl
    obtain ⟨o, e⟩ := S.L_get
    rw [e] at ha; cases ha
  · intro h
    obtain ⟨p, hp, e⟩ := List.mem_map.mp h
    obtain ⟨⟨o, a', _⟩, _⟩ := S.N.1 p hp
    rw [e, ha] at a'; cases a'

theorem nodup_set_same {α β : Type} {l : List (α × β)} {i : Nat} {a : α} {x y : β} (hi : l[i]? = some (a, x)) : (l.set i (a, y)).map (·.1) = l.map (·.1) := by
  apply List.ext_getElem?
  intro j
  simp only [List.getElem?_map, List.getElem?_set]
  by_cases h : i = j
  · subst h
    rw [hi]
    have := (List.getElem?_eq_some_iff.mp hi).1
    simp [this]
  · simp [h]
theorem mem_set_cases {α : Type} {l : List α} {i : Nat} {x p : α} (h : p ∈ l.set i x) : p = x ∨ ∃ j, j ≠ i ∧ l[j]? = some p := by
  obtain ⟨j, hj⟩ := List.getElem?_of_mem h
  rw [List.getElem?_set] at hj
  by_cases e : i = j
  · subst e
    simp only [if_true] at hj
    split at hj
    · exact .inl (Option.some.inj hj).symm
    · cases hj
  · simp only [if_neg e] at hj
    exact .inr ⟨j, Ne.symm e, hj⟩
theorem nodup_idx {α : Type} {l : List α} (hn : l.Nodup) {i j : Nat} {x : α} (hi : l[i]? = some x) (hj : l[j]? = some x) : i = j := by
  have h1 := (List.getElem?_eq_some_iff.mp hi)
  have h2 := (List.getElem?_eq_some_iff.mp hj)
  obtain ⟨l1, e1⟩ := h1
  obtain ⟨l2, e2⟩ := h2
  have hp := List.pairwise_iff_getElem.mp hn
  rcases Nat.lt_trichotomy i j with h | h | h
  · exact absurd (e1.trans e2.symm) (hp i j l1 l2 h)
  · exact h
  · exact absurd (e2.trans e1.symm) (hp j i l2 l1 h)

/-- one object of the ledger turned, by a heap that is the same elsewhere -/
theorem St.upd (S : St h₀ L ns vs l b s) {s' : Shared} {i : Nat} {a : Addr} {P P' : Assn} {o' : Obj} (hi : l[i]? = some (a, P)) (k : ∀ c o, c ≠ a → s.heap.get? c = some o → s'.heap.get? c = some o) (hg : s'.gens = s.gens) (hd : s'.drawn = s.drawn) (hos : s'.os = s.os)
    (ho : s'.heap.get? a = some o') (hP : P' o') : St h₀ L ns vs (l.set i (a, P')) b s' := by
  have ha := S.N.1 _ (List.mem_of_getElem? hi)
  refine ⟨⟨?_, fun c o e => k c o (fun x => ?_) (S.F.keep c o e), S.F.above⟩, ⟨fun p hp => ?_, by rw [nodup_set_same hi]; exact S.N.2⟩, S.len, S.low, hg.trans S.g, hd.trans S.d, hos.trans S.o⟩
  · obtain ⟨oL, es, ep, e, r⟩ := S.F.ns
    exact ⟨oL, es, ep, k L oL (Ne.symm ha.2.1) e, r⟩
  · subst x
    have := ha.2.2.1
    rw [e] at this; cases this
  · rcases mem_set_cases hp with rfl | ⟨j, hj, e⟩
    · exact ⟨⟨o', ho, hP⟩, ha.2⟩
    · obtain ⟨⟨o, x, c⟩, r⟩ := S.N.1 p (List.mem_of_getElem? e)
      refine ⟨⟨o, k _ _ (fun q => hj ?_) x, c⟩, r⟩
      refine nodup_idx S.N.2 (x := p.1) ?_ ?_
      · rw [List.getElem?_map, e]; rfl
      · rw [List.getElem?_map, hi, q]; rfl

theorem St.set {s' : Shared} {i : Nat} {x : Str} {v : Value} (S : St h₀ L ns vs l b s) (hn : ns.Nodup) (hx : ns[i]? = some x) (hm : s'.heap.Ns L (fun y => if y = x then some v else fm ns vs y)) (hsb : Heap.SameBut L s.heap s'.heap)
    (hg : s'.gens = s.gens) (hd : s'.drawn = s.drawn) (hos : s'.os = s.os) : St h₀ L ns (vs.set i (some v)) l b s' := by
  have hlt : i < vs.length := by rw [S.len]; exact (List.getElem?_eq_some_iff.mp hx).1
  refine ⟨?_, S.N.keep fun p hp o e => (hsb.2 p.1 (S.N.1 p hp).2.1).trans e, by rw [List.length_set]; exact S.len, S.low, hg.trans S.g, hd.trans S.d, hos.trans S.o⟩
  rw [← fm_set hn hx hlt]
  exact S.F.set hm hsb
end

section
variable {M : Model} {A : Around} {E : Value → Shared → Prop} {h₀ : Heap} {L : Addr} {ns : List Str} {vs : List (Option Value)} {l : List (Addr × Assn)} {b s : Shared} {env : Env}

theorem kindOf_local (e : Ev env L ns) {i : Nat} {x : Str} (hx : ns[i]? = some x) : env.kindOf x = some .local := e.names x (List.mem_of_getElem? hx)
theorem loadName_i (e : Ev env L ns) (S : St h₀ L ns vs l b s) (i : Nat) {x : Str} {v : Value} {Q : Value → Shared → Prop} (hx : ns[i]? = some x) (hv : vs[i]? = some (some v)) (h : Q v s) :
    wpAny M A (loadName env x) Q E s := by
  have hF := S.F.ns
  rw [← e.loc] at hF
  exact wpAny_loadName_local e.kind (kindOf_local e hx) hF (fm_get e.nd hx hv) h
theorem ld_i (e : Ev env L ns) (S : St h₀ L ns vs l b s) (i : Nat) {x : Str} {pos : Pos} {v : Value} {Q : Value → Shared → Prop} (hx : ns[i]? = some x) (hv : vs[i]? = some (some v)) (h : Q v s) :
    wpAny M A (eval (.Name x pos) env) Q E s := wpAny_Name (loadName_i e S i hx hv h) (e.dbg x (List.mem_of_getElem? hx))
theorem st_i (e : Ev env L ns) (S : St h₀ L ns vs l b s) (i : Nat) {x : Str} {v : Value} {Q : Unit → Shared → Prop} (hx : ns[i]? = some x) (h : ∀ s', St h₀ L ns (vs.set i (some v)) l b s' → Q () s') :
    wpAny M A (storeName env x v) Q E s := by
  have hF := S.F.ns
  rw [← e.loc] at hF
  refine wpAny_storeName_local (kindOf_local e hx) hF (fun h' hn hs => h _ (S.set (s' := { s with heap := h', toks := s.toks + 1 }) e.nd hx ?_ ?_ rfl rfl rfl)) ?_
  · rw [e.loc] at hn; exact hn
  · rw [e.loc] at hs; exact hs
  · rw [e.kind]; rfl
end
end Mine
end

section
set_option maxRecDepth 100000
set_option maxHeartbeats 400000
set_option linter.unusedVariables false
namespace Mine
open PySem PySem.W PySem.Calls PyProof.Rows

section
variable {prog : Program} {w : World} {A : Around} {E : Value → Shared → Prop} {h₀ : Heap} {L : Addr} {ns : List Str} {vs : List (Option Value)} {l : List (Addr × Assn)} {b s : Shared} {env : Env}

theorem s_ci (S : St h₀ L ns vs l b s) {i : Int} {k : Nat} {pos : Pos} {Q : Value → Shared → Prop} (h : ∀ t s', St h₀ L ns vs l b s' → Q (.int i t) s') : wpAny (model prog w) A (eval (.Constant (.int i) k pos) env) Q E s :=
  wpAny_Constant_int (h _ _ (S.tok _))
theorem s_add (S : St h₀ L ns vs l b s) {x y : Int} {t u : Tok} {Q : Value → Shared → Prop} (h : ∀ t s', St h₀ L ns vs l b s' → Q (.int (x + y) t) s') : wpAny (model prog w) A (binaryOp .Add (.int x t) (.int y u)) Q E s := add_int (h _ _ (S.tok _))
theorem s_sub (S : St h₀ L ns vs l b s) {x y : Int} {t u : Tok} {Q : Value → Shared → Prop} (h : ∀ t s', St h₀ L ns vs l b s' → Q (.int (x - y) t) s') : wpAny (model prog w) A (binaryOp .Sub (.int x t) (.int y u)) Q E s := sub_int (h _ _ (S.tok _))
theorem s_mod (S : St h₀ L ns vs l b s) {x y : Int} {t u : Tok} {Q : Value → Shared → Prop} (hy : 0 < y) (h : ∀ t s', St h₀ L ns vs l b s' → Q (.int (x % y) t) s') : wpAny (model prog w) A (binaryOp .Mod (.int x t) (.int y u)) Q E s :=
  mod_int (by omega) (by rw [Int.fmod_eq_emod_of_nonneg _ (by omega)]; exact h _ _ (S.tok _))
theorem s_fdiv (S : St h₀ L ns vs l b s) {x y : Int} {t u : Tok} {Q : Value → Shared → Prop} (hy : 0 < y) (hy2 : y < 1000000) (h : ∀ t s', St h₀ L ns vs l b s' → Q (.int (x / y) t) s') : wpAny (model prog w) A (binaryOp .FloorDiv (.int x t) (.int y u)) Q E s :=
  floordiv_int (by omega) (by rw [Int.fdiv_eq_ediv_of_nonneg _ (by omega)]; exact h _ _ (S.tok _)) (hp := .inl (PyProof.noPylong_small (by omega)))
theorem s_iadd (S : St h₀ L ns vs l b s) {x y : Int} {t u : Tok} {Q : Value → Shared → Prop} (h : ∀ t s', St h₀ L ns vs l b s' → Q (.int (x + y) t) s') : wpAny (model prog w) A (inplaceOp .Add (.int x t) (.int y u)) Q E s := iadd_int (h _ _ (S.tok _))

/-- WHILE by an invariant over the frame's values and the ledger -/
theorem s_while {test : Expr} {body : List Stmt} {pos : Pos} {Q : Flow → Shared → Prop} (J : Nat → List (Option Value) → List (Addr × Assn) → Prop) (n : Nat) (S : St h₀ L ns vs l b s) (hJ : J n vs l)
    (turn : ∀ n vs l s, J n vs l → St h₀ L ns vs l b s → wpAny (model prog w) A (isTrue test env (eval test env)) (fun bb s₂ => if bb = true then
        wpAny (model prog w) A (execs body env) (fun f s₃ => match f with
          | .next | .cont => ∃ n' vs' l', n' < n ∧ J n' vs' l' ∧ St h₀ L ns vs' l' b s₃
          | .brk => Q .next s₃
          | .ret v => Q (.ret v) s₃) (fun _ _ => False) s₂
        else Q .next s₂) (fun _ _ => False) s) :
    wpAny (model prog w) A (exec (.While test body [] pos) env) Q E s := by
  refine wpAny_While (codeAny_whileLoop (fun n s' => ∃ vs l, J n vs l ∧ St h₀ L ns vs l b s') ?_ n ⟨vs, l, hJ, S⟩)
  rintro n s' ⟨vs, l, hJ, S⟩
  refine wpAny_mono (turn n vs l s' hJ S) (fun bb s₂ h₂ => ?_) (fun _ _ x => x.elim)
  cases bb with
  | false =>
    simp only [Bool.false_eq_true, if_false] at h₂ ⊢
    exact wpAny_execs_nil h₂
  | true =>
    simp only [if_true] at h₂ ⊢
    refine wpAny_mono h₂ (fun f s₃ h₃ => ?_) (fun _ _ x => x.elim)
    cases f with
    | next => obtain ⟨n', vs', l', a, b, c⟩ := h₃; exact ⟨n', a, vs', l', b, c⟩
    | cont => obtain ⟨n', vs', l', a, b, c⟩ := h₃; exact ⟨n', a, vs', l', b, c⟩
    | brk => exact h₃
    | ret v => exact h₃
end
end Mine
end

section
set_option maxRecDepth 100000
set_option maxHeartbeats 400000
set_option linter.unusedVariables false
namespace Mine
open PySem PySem.W PySem.Calls PyProof.Rows

def ATup (xs : List Value) : Assn := fun o => o.cls = .type "tuple" ∧ ∃ n, o.data = .seq xs.toArray n
def AList (xs : List Value) : Assn := fun o => o.cls = .type "list" ∧ ∃ n, o.data = .seq xs.toArray n
def ADict {prog : Program} {w : World} {K : Type} [DecidableEq K] (knd : PySem.KeyKind prog w K) (kvs : List (K × Value)) : Assn := fun o => o.IsDictOf knd kvs
def AObj (o : Obj) : Assn := fun o' => o' = o

section
variable {prog : Program} {w : World} {A : Around} {E : Value → Shared → Prop} {h₀ : Heap} {L : Addr} {ns : List Str} {vs : List (Option Value)} {l : List (Addr × Assn)} {b s : Shared} {env : Env}

theorem St.ext {h' : Heap} (S : St h₀ L ns vs l b s) (x : Heap.ExtBut s.heap.objs.size s.heap h') (t : Nat := s.toks) : St h₀ L ns vs l b { s with heap := h', toks := t } :=
  S.keep (fun a o e => x a o (Nat.ne_of_lt (Heap.lt_size e)) e) rfl rfl rfl
theorem St.tup (S : St h₀ L ns vs l b s) {i : Nat} {a : Addr} {xs : List Value} (hi : l[i]? = some (a, ATup xs)) : IsTup s.heap a xs.toArray := let ⟨o, a, c, d⟩ := S.at hi; ⟨o, a, c, d⟩
theorem St.lst (S : St h₀ L ns vs l b s) {i : Nat} {a : Addr} {xs : List Value} (hi : l[i]? = some (a, AList xs)) : s.heap.IsList a xs.toArray := let ⟨o, a, c, d⟩ := S.at hi; ⟨o, a, c, d⟩
theorem St.dct (S : St h₀ L ns vs l b s) {K : Type} [DecidableEq K] {knd : PySem.KeyKind prog w K} {kvs : List (K × Value)} {i : Nat} {a : Addr} (hi : l[i]? = some (a, ADict knd kvs)) : s.heap.DictOf knd a kvs :=
  let ⟨o, a, c⟩ := S.at hi; Heap.dictOf_iff.mpr ⟨o, a, c⟩
theorem St.obj (S : St h₀ L ns vs l b s) {i : Nat} {a : Addr} {o : Obj} (hi : l[i]? = some (a, AObj o)) : s.heap.get? a = some o := let ⟨o', a, c⟩ := S.at hi; c ▸ a

theorem s_newTuple (S : St h₀ L ns vs l b s) {xs : List Value} {Q : Value → Shared → Prop} (hz : Nat.ble xs.length 1000 = true) (h : ∀ a s', St h₀ L ns vs ((a, ATup xs) :: l) b s' → Q (.ref a) s') : wpAny (model prog w) A (newTuple xs) Q E s :=
  wpAny_newTuple (h _ _ (S.alloc ⟨rfl, _, rfl⟩ rfl)) (by have := Nat.le_of_ble_eq_true hz; rw [sizeLine_eq]; omega)
theorem s_newList (S : St h₀ L ns vs l b s) {xs : List Value} {Q : Value → Shared → Prop} (hz : Nat.ble xs.length 1000 = true) (h : ∀ a s', St h₀ L ns vs ((a, AList xs) :: l) b s' → Q (.ref a) s') : wpAny (model prog w) A (newList xs) Q E s :=
  wpAny_newObj_type (h _ _ (S.alloc ⟨rfl, _, rfl⟩ rfl)) (by have := Nat.le_of_ble_eq_true hz; show xs.toArray.size ≤ sizeLine; rw [List.size_toArray, sizeLine_eq]; omega)
theorem s_unpackItems (S : St h₀ L ns vs l b s) (hh : A.handled = none) {t : Addr} {xs : List Value} {n : Nat} {Q : List Value → Shared → Prop} (ht : IsTup s.heap t xs.toArray) (hn : xs.length = n) (h : ∀ s', St h₀ L ns vs l b s' → Q xs s') :
    wpAny (model prog w) A (unpackItems (.ref t) n none) Q E s := by
  have := unpackItems_tuple (prog := prog) (w := w) (A := A) (E := E) (Q := Q) hh ht (fun h' x => h _ (S.ext x))
  subst hn
  simpa using this
theorem s_unpack (S : St h₀ L ns vs l b s) (hh : A.handled = none) {t : Addr} {xs : List Value} {elts : List Expr} {k : Nat} {pos : Pos} {Q : Unit → Shared → Prop} (ht : IsTup s.heap t xs.toArray) (hn : (assignEach elts env).length = xs.length)
    (hstar : (assignEach elts env).findIdx? (·.1) = none)
    (h : ∀ s', St h₀ L ns vs l b s' → wpAny (model prog w) A (assignInOrder ((assignEach elts env).map (·.2)) xs) Q E s') :
    wpAny (model prog w) A (assign (.Tuple elts k pos) env (.ref t)) Q E s :=
  assign_Tuple_tuple hh ht (by simpa using hn) hstar (fun h' x => by simpa using h _ (S.ext x))

theorem s_tuple2 {e₁ e₂ : Expr} {k : Nat} {pos : Pos} {Q : Value → Shared → Prop}
    (h : wpAny (model prog w) A (eval e₁ env) (fun v s₁ => wpAny (model prog w) A (eval e₂ env) (fun u s₂ => wpAny (model prog w) A (newTuple [v, u]) Q E s₂) E s₁) E s)
    (he1 : starEach [e₁, e₂] env = (false, eval e₁ env) :: starEach [e₂] env) (he2 : starEach [e₂] env = (false, eval e₂ env) :: starEach [] env) :
    wpAny (model prog w) A (eval (.Tuple [e₁, e₂] k pos) env) Q E s :=
  Tuple_ (spliced_more (wpAny_mono h (fun v s₁ h₁ => spliced_more (wpAny_mono h₁ (fun u s₂ h₂ => spliced_none h₂) fun _ _ x => x) he2) fun _ _ x => x) he1)
end
end Mine
end

section
set_option maxRecDepth 100000
set_option maxHeartbeats 400000
set_option linter.unusedVariables false
namespace Mine
open PySem PySem.W PySem.Calls PyProof.Rows

section
variable {M : Model} {A : Around} {E : Value → Shared → Prop} {s : Shared} {env : Env} {pos : Pos}

theorem cw_b0 {id : String} {Q : Value → Shared → Prop} (h : wpAny M A (call (.builtin id) []) Q E s) : wpAny M A (callWith pos (.builtin id) [] (backTo pos (starEach [] env)) []) Q E s := callWith_method0 h
theorem cw_b1 {id : String} {e : Expr} {Q : Value → Shared → Prop} (h : wpAny M A (eval e env) (fun v s₁ => wpAny M A (call (.builtin id) [v]) Q E s₁) E s) (he : starEach [e] env = (false, eval e env) :: starEach [] env := by rfl) :
    wpAny M A (callWith pos (.builtin id) [] (backTo pos (starEach [e] env)) []) Q E s :=
  callWith_method1 (spliced_more (wpAny_mono h (fun v s₁ h₁ => spliced_none h₁) fun _ _ x => x) he) he
theorem cw_b2 {id : String} {e f : Expr} {Q : Value → Shared → Prop} (h : wpAny M A (eval e env) (fun v s₁ => wpAny M A (eval f env) (fun u s₂ => wpAny M A (call (.builtin id) [v, u]) Q E s₂) E s₁) E s)
    (he : starEach [e, f] env = (false, eval e env) :: starEach [f] env := by rfl) (he2 : starEach [f] env = (false, eval f env) :: starEach [] env := by rfl) :
    wpAny M A (callWith pos (.builtin id) [] (backTo pos (starEach [e, f] env)) []) Q E s :=
  callWith_method1 (spliced_more (wpAny_mono h (fun v s₁ h₁ => spliced_more (wpAny_mono h₁ (fun u s₂ h₂ => spliced_none h₂) fun _ _ x => x) he2) fun _ _ x => x) he) he (by rw [he2]; rfl)
theorem cw_m0 {id : String} {o : Value} {Q : Value → Shared → Prop} (h : wpAny M A (call (.builtin id) [o]) Q E s) : wpAny M A (callWith pos (.builtin id) [o] (backTo pos (starEach [] env)) []) Q E s := callWith_method0 h
theorem cw_m1 {id : String} {e : Expr} {o : Value} {Q : Value → Shared → Prop} (h : wpAny M A (eval e env) (fun v s₁ => wpAny M A (call (.builtin id) [o, v]) Q E s₁) E s) (he : starEach [e] env = (false, eval e env) :: starEach [] env := by rfl) :
    wpAny M A (callWith pos (.builtin id) [o] (backTo pos (starEach [e] env)) []) Q E s :=
  callWith_method1 (spliced_more (wpAny_mono h (fun v s₁ h₁ => spliced_none h₁) fun _ _ x => x) he) he
theorem cw_m2 {id : String} {e f : Expr} {o : Value} {Q : Value → Shared → Prop} (h : wpAny M A (eval e env) (fun v s₁ => wpAny M A (eval f env) (fun u s₂ => wpAny M A (call (.builtin id) [o, v, u]) Q E s₂) E s₁) E s)
    (he : starEach [e, f] env = (false, eval e env) :: starEach [f] env := by rfl) (he2 : starEach [f] env = (false, eval f env) :: starEach [] env := by rfl) :
    wpAny M A (callWith pos (.builtin id) [o] (backTo pos (starEach [e, f] env)) []) Q E s :=
  callWith_method1 (spliced_more (wpAny_mono h (fun v s₁ h₁ => spliced_more (wpAny_mono h₁ (fun u s₂ h₂ => spliced_none h₂) fun _ _ x => x) he2) fun _ _ x => x) he) he (by rw [he2]; rfl)
theorem cw_t0 {T : String} {Q : Value → Shared → Prop} (h : wpAny M A (call (.type T) []) Q E s) : wpAny M A (callWith pos (.type T) [] (backTo pos (starEach [] env)) []) Q E s := PyProof.Rows.callWith_type0 h
theorem cw_t1 {T : String} {e : Expr} {Q : Value → Shared → Prop} (h : wpAny M A (eval e env) (fun v s₁ => wpAny M A (call (.type T) [v]) Q E s₁) E s) (he : starEach [e] env = (false, eval e env) :: starEach [] env := by rfl) :
    wpAny M A (callWith pos (.type T) [] (backTo pos (starEach [e] env)) []) Q E s :=
  PyProof.Rows.callWith_type1 (spliced_more (wpAny_mono h (fun v s₁ h₁ => spliced_none h₁) fun _ _ x => x) he) he
theorem cw_t2 {T : String} {e f : Expr} {Q : Value → Shared → Prop} (h : wpAny M A (eval e env) (fun v s₁ => wpAny M A (eval f env) (fun u s₂ => wpAny M A (call (.type T) [v, u]) Q E s₂) E s₁) E s)
    (he : starEach [e, f] env = (false, eval e env) :: starEach [f] env := by rfl) (he2 : starEach [f] env = (false, eval f env) :: starEach [] env := by rfl) :
    wpAny M A (callWith pos (.type T) [] (backTo pos (starEach [e, f] env)) []) Q E s :=
  PyProof.Rows.callWith_type1 (spliced_more (wpAny_mono h (fun v s₁ h₁ => spliced_more (wpAny_mono h₁ (fun u s₂ h₂ => spliced_none h₂) fun _ _ x => x) he2) fun _ _ x => x) he) he (by rw [he2]; rfl)
theorem cw_t3 {T : String} {e f g : Expr} {Q : Value → Shared → Prop} (h : wpAny M A (eval e env) (fun v s₁ => wpAny M A (eval f env) (fun u s₂ => wpAny M A (eval g env) (fun x s₃ => wpAny M A (call (.type T) [v, u, x]) Q E s₃) E s₂) E s₁) E s)
    (he : starEach [e, f, g] env = (false, eval e env) :: starEach [f, g] env := by rfl) (he2 : starEach [f, g] env = (false, eval f env) :: starEach [g] env := by rfl) (he3 : starEach [g] env = (false, eval g env) :: starEach [] env := by rfl) :
    wpAny M A (callWith pos (.type T) [] (backTo pos (starEach [e, f, g] env)) []) Q E s :=
  PyProof.Rows.callWith_type1 (spliced_more (wpAny_mono h (fun v s₁ h₁ => spliced_more (wpAny_mono h₁ (fun u s₂ h₂ => spliced_more (wpAny_mono h₂ (fun u s₂ h₂ => spliced_none h₂) fun _ _ x => x) he3) fun _ _ x => x) he2) fun _ _ x => x) he) he (by rw [he2, he3]; rfl)
end
end Mine
end

section
set_option maxRecDepth 100000
set_option maxHeartbeats 400000
set_option linter.unusedVariables false
namespace Mine
open PySem PySem.W PySem.Calls PyProof.Rows

section
variable {prog : Program} {w : World} {A : Around} {E : Value → Shared → Prop} {h₀ : Heap} {L : Addr} {ns : List Str} {vs : List (Option Value)} {l : List (Addr × Assn)} {b s : Shared} {env : Env}

theorem s_len_list (S : St h₀ L ns vs l b s) {a : Addr} {xs : List Value} {Q : Value → Shared → Prop} (hl : s.heap.IsList a xs.toArray) (hz : xs.length ≤ 100000) (h : ∀ t s', St h₀ L ns vs l b s' → Q (.int xs.length t) s') :
    wpAny (model prog w) A (call (.builtin "len") [.ref a]) Q E s :=
  call_len_list hl (by simp; omega) (by simpa using h _ _ (S.tok _))
theorem s_sub_list {a : Addr} {xs : List Value} {k : Int} {t : Tok} {x : Value} {value slice : Expr} {Q : Value → Shared → Prop} (hl : s.heap.IsList a xs.toArray) (h0 : 0 ≤ k) (h1 : k < 2 ^ 62) (hx : xs[k.toNat]? = some x) (h : Q x s)
    (hs : subscripted slice false (.ref a) (.int k t) = operate [.ref a, .int k t] (getItem (.ref a) (.int k t)) := by with_unfolding_all rfl) :
    wpAny (model prog w) A (subscriptTail value slice (.ref a) (.int k t)) Q E s :=
  tail_any hl.typeIs slot_list_getitem.lookup (wpAny_getItem_list hl h0 (by omega) (by simpa using hx) h) hs
end
end Mine
end

section
set_option maxRecDepth 100000
set_option maxHeartbeats 400000
set_option linter.unusedVariables false
namespace Mine
open PySem PySem.W PySem.Calls PyProof.Rows

/-- entries keyed by names -/
inductive FldsAre (P : Params) : List (Str × Value) → List DictEntry → Prop
  | nil : FldsAre P [] []
  | cons {x : Str} {v : Value} {t : Tok} {fs : List (Str × Value)} {es : List DictEntry} : FldsAre P fs es → FldsAre P ((x, v) :: fs) (⟨PyData.keyHash P x, .str x t, v⟩ :: es)
def fGet (x : Str) : List (Str × Value) → Option Value
  | [] => none
  | p :: r => if p.1 == x then some p.2 else fGet x r
def fPut (x : Str) (v : Value) : List (Str × Value) → List (Str × Value)
  | [] => [(x, v)]
  | p :: r => if p.1 == x then (p.1, v) :: r else p :: fPut x v r
theorem isStr_str (x y : Str) (t : Tok) : (Value.str x t).isStr y = (x == y) := rfl
theorem FldsAre.find {P : Params} {x : Str} : ∀ {fs : List (Str × Value)} {es : List DictEntry}, FldsAre P fs es → (es.find? (·.key.isStr x)).map (·.val) = fGet x fs
  | _, _, .nil => rfl
  | _, _, .cons (x := y) (v := v) (t := t) h => by
    simp only [List.find?_cons, isStr_str, fGet]
    cases e : (y == x) with
    | true => rfl
    | false => simpa using h.find
theorem FldsAre.noRef {P : Params} : ∀ {fs : List (Str × Value)} {es : List DictEntry}, FldsAre P fs es → es.any (·.refKey) = false
  | _, _, .nil => rfl
  | _, _, .cons (x := y) (v := v) (t := t) h => by
    rw [List.any_cons, h.noRef]; rfl
theorem FldsAre.get {P : Params} {x : Str} {fs : List (Str × Value)} {es : List DictEntry} (h : FldsAre P fs es) : getL x es = some (fGet x fs) := by
  have hf := h.find (x := x)
  unfold getL
  cases e : es.find? (·.key.isStr x) with
  | some en => rw [e] at hf; rw [← hf]; rfl
  | none => rw [e] at hf; rw [← hf]; simp [h.noRef]
theorem FldsAre.put {P : Params} {x : Str} {v : Value} {t : Tok} : ∀ {fs : List (Str × Value)} {es : List DictEntry}, FldsAre P fs es → FldsAre P (fPut x v fs) (putL x (PyData.keyHash P x) (.str x t) v es)
  | _, _, .nil => .cons .nil
  | _, _, .cons (x := y) (v := u) (t := t') (fs := fs) (es := es) h => by
    by_cases e : (y == x) = true
    · have e1 : fPut x v ((y, u) :: fs) = (y, v) :: fs := by unfold fPut; exact if_pos e
      have e2 : putL x (PyData.keyHash P x) (.str x t) v (⟨PyData.keyHash P y, .str y t', u⟩ :: es) = ⟨PyData.keyHash P y, .str y t', v⟩ :: es := by unfold putL; exact if_pos e
      rw [e1, e2]; exact .cons h
    · have e1 : fPut x v ((y, u) :: fs) = (y, u) :: fPut x v fs := if_neg e
      have e2 : putL x (PyData.keyHash P x) (.str x t) v (⟨PyData.keyHash P y, .str y t', u⟩ :: es) = ⟨PyData.keyHash P y, .str y t', u⟩ :: putL x (PyData.keyHash P x) (.str x t) v es := if_neg e
      rw [e1, e2]; exact .cons h.put
theorem FldsAre.length {P : Params} : ∀ {fs : List (Str × Value)} {es : List DictEntry}, FldsAre P fs es → es.length = fs.length
  | _, _, .nil => rfl
  | _, _, .cons h => by simp [h.length]
theorem fPut_length (x : Str) (v : Value) : ∀ fs : List (Str × Value), (fPut x v fs).length ≤ fs.length + 1
  | [] => by simp [fPut]
  | p :: r => by
    unfold fPut
    split
    · simp
    · have := fPut_length x v r; simp; omega

/-- an object's dict -/
def AFld (w : World) (fs : List (Str × Value)) : Assn := fun o => ∃ es n, o = dictOf es n ∧ FldsAre w.params fs es

/-- an object with a dict, in a heap -/
structure Inst (w : World) (h : Heap) (x C dx : Addr) (fs : List (Str × Value)) : Prop where
  at_ : h.get? x = some (instObj C dx)
  dict : ∃ o, h.get? dx = some o ∧ AFld w fs o
theorem Inst.keep {w : World} {h h' : Heap} {x C dx : Addr} {fs : List (Str × Value)} (I : Inst w h x C dx fs) (k : ∀ a o, h.get? a = some o → h'.get? a = some o) : Inst w h' x C dx fs :=
  ⟨k _ _ I.at_, let ⟨o, a, b⟩ := I.dict; ⟨o, k _ _ a, b⟩⟩
theorem Inst.of {w : World} {h : Heap} {x C dx : Addr} {fs : List (Str × Value)} (I : Inst w h x C dx fs) : ∃ es n, InstAt h x (instObj C dx) C (some (dictOf es n)) ∧ FldsAre w.params fs es := by
  obtain ⟨a, o, c, es, n, rfl, f⟩ := I
  exact ⟨es, n, ⟨a, rfl, rfl, c⟩, f⟩

section
variable {prog : Program} {w : World} {A : Around} {E : Value → Shared → Prop} {h₀ : Heap} {L : Addr} {ns : List Str} {vs : List (Option Value)} {l : List (Addr × Assn)} {b s : Shared} {env : Env} {K : Frag} {x C dx : Addr} {fs : List (Str × Value)} {name : Str}

theorem St.inst (S : St h₀ L ns vs l b s) (i j : Nat) (hi : l[i]? = some (x, AObj (instObj C dx))) (hj : l[j]? = some (dx, AFld w fs)) : Inst w s.heap x C dx fs := ⟨S.obj hi, S.at hj⟩

/-- an attribute of the object's own dict -/
theorem s_attr {expr : Bool} {Q : Value → Shared → Prop} (attr : Option Value) (v : Value) (S : St h₀ L ns vs l b s) (X₀ : K.In h₀) (I : Inst w s.heap x C dx fs) (hg : plainGet K C name = true) (hh : hasDictIn K C = true) (ha : findIn K (.ref C) name = some attr) (hn : noGet K attr = true)
    (hl : fGet name fs = some v) (hv : handedIn v = true) (h : ∀ s', St h₀ L ns vs l b s' → Q v s') : wpAny (model prog w) A (getAttr (.ref x) name expr) Q E s := by
  obtain ⟨es, n, IA, f⟩ := I.of
  exact get_own S.F X₀ IA hg hh ha hn (by rw [f.get, hl]) hv (h _ (S.tok _))
/-- an attribute of the class's: a plain value -/
theorem s_attr_cls {expr : Bool} {Q : Value → Shared → Prop} (a : Value) (S : St h₀ L ns vs l b s) (X₀ : K.In h₀) (I : Inst w s.heap x C dx fs) (hg : plainGet K C name = true) (hh : hasDictIn K C = true) (ha : findIn K (.ref C) name = some (some a)) (hn : specialIn K a "__get__" = some none)
    (hv : handedIn a = true) (hc : copiedNames.contains name = false) (hl : fGet name fs = none) (h : ∀ s', St h₀ L ns vs l b s' → Q a s') : wpAny (model prog w) A (getAttr (.ref x) name expr) Q E s := by
  obtain ⟨es, n, IA, f⟩ := I.of
  exact get_cls S.F X₀ IA hg hh ha hn hv hc (by rw [f.get, hl]) (h _ (S.tok _))
/-- a method that is a def -/
theorem s_meth {pl : Sem Bool} {Q : Value × List Value → Shared → Prop} (f : Addr) (S : St h₀ L ns vs l b s) (X₀ : K.In h₀) (I : Inst w s.heap x C dx fs) (hg : plainGet K C name = true)
    (hf : findIn K (.ref C) name = some (some (.ref f))) (ht : isFn K (.ref f) = true) (hl : fGet name fs = none) (h : Q (.ref f, [.ref x]) s) : wpAny (model prog w) A (getMethod (.ref x) name pl) Q E s := by
  obtain ⟨es, n, IA, f⟩ := I.of
  exact method_inst S.F X₀ IA hg hf ht (by rw [f.get, hl]) h
/-- a class's plain value, called through the object -/
theorem s_meth_cls {pl : Sem Bool} {Q : Value × List Value → Shared → Prop} (a : Value) (S : St h₀ L ns vs l b s) (X₀ : K.In h₀) (I : Inst w s.heap x C dx fs) (hg : plainGet K C name = true) (hh : hasDictIn K C = true) (ha : findIn K (.ref C) name = some (some a)) (hn : specialIn K a "__get__" = some none)
    (hv : handedIn a = true) (hc : copiedNames.contains name = false) (hl : fGet name fs = none)
    (ht : (some a).all (fun a => (typeIn K a).any fun t => t != .type "function" && t != .type "method_descriptor" && t != .type "wrapper_descriptor") = true)
    (h : ∀ s', St h₀ L ns vs l b s' → Q (a, []) s') : wpAny (model prog w) A (getMethod (.ref x) name pl) Q E s := by
  obtain ⟨es, n, IA, f⟩ := I.of
  refine method_usual (X₀.keeps S.F.keep) IA (plainGet_of hg).1 (plainGet_of hg).2 ha ht ?_
  exact s_attr_cls a S X₀ I hg hh ha hn hv hc hl h

/-- the ledger as the library writes it -/
theorem St.news (S : St h₀ L ns vs l b s) {i : Nat} {a : Addr} {P : Assn} (hi : l[i]? = some (a, P)) : ∃ pre post o, P o ∧ News h₀ L s.heap (pre ++ (a, o) :: post) ∧ (∀ p ∈ pre, p.1 ≠ a) ∧ (∀ p ∈ post, p.1 ≠ a) ∧
    ∀ (o' : Obj) (P' : Assn) (s' : Shared), P' o' → Fr h₀ L s'.heap (fm ns vs) → News h₀ L s'.heap (pre ++ (a, o') :: post) → s'.gens = s.gens → s'.drawn = s.drawn → s'.os = s.os → St h₀ L ns vs (l.set i (a, P')) b s' := by
  have key : ∀ l : List (Addr × Assn), (∀ p ∈ l, (∃ o, s.heap.get? p.1 = some o ∧ p.2 o) ∧ p.1 ≠ L ∧ h₀.get? p.1 = none ∧ (p.1 == sysModules) = false) → ∃ nw : List (Addr × Obj), News h₀ L s.heap nw ∧ nw.length = l.length ∧ ∀ (j : Nat) p, l[j]? = some p → ∃ o, nw[j]? = some (p.1, o) ∧ p.2 o := by
    intro l
    induction l with
    | nil => intro _; exact ⟨[], News.nil, rfl, fun j p h => by simp at h⟩
    | cons q l ih =>
      intro h
      obtain ⟨nw, N, e, k⟩ := ih fun p hp => h p (List.mem_cons_of_mem _ hp)
      obtain ⟨⟨o, ho, hq⟩, r1, r2, r3⟩ := h q List.mem_cons_self
      refine ⟨(q.1, o) :: nw, fun p hp => ?_, by simp [e], fun j p hj => ?_⟩
      · rcases List.mem_cons.mp hp with rfl | hp
        · exact ⟨ho, r1, r2⟩
        · exact N p hp
      · cases j with
        | zero => simp at hj; subst hj; exact ⟨o, rfl, hq⟩
        | succ j => exact k j p (by simpa using hj)
  obtain ⟨nw, N, e, k⟩ := key l S.N.1
  obtain ⟨o, ho, hP⟩ := k i _ hi
  have hlt : i < nw.length := (List.getElem?_eq_some_iff.mp ho).1
  have hsplit : nw = nw.take i ++ (a, o) :: nw.drop (i + 1) := by
    have : nw[i] = (a, o) := (List.getElem?_eq_some_iff.mp ho).2
    rw [← this, List.getElem_cons_drop, List.take_append_drop]
  have hmap : ∀ (j : Nat) q, nw[j]? = some q → ∃ P, l[j]? = some (q.1, P) ∧ P q.2 := by
    intro j q hj
    have hl : j < l.length := e ▸ (List.getElem?_eq_some_iff.mp hj).1
    obtain ⟨o', ho', hp'⟩ := k j l[j] (by simp [hl])
    rw [hj] at ho'
    cases ho'
    exact ⟨l[j].2, by simp [hl], hp'⟩
  have hne : ∀ (j : Nat) q, j ≠ i → nw[j]? = some q → q.1 ≠ a := by
    intro j q hj hq he
    obtain ⟨P', hP', _⟩ := hmap j q hq
    refine hj (nodup_idx S.N.2 (x := a) ?_ ?_)
    · rw [List.getElem?_map, hP', he]; rfl
    · rw [List.getElem?_map, hi]; rfl
  refine ⟨nw.take i, nw.drop (i + 1), o, hP, hsplit ▸ N, ?_, ?_, ?_⟩
  · intro p hp
    obtain ⟨j, hj⟩ := List.getElem?_of_mem hp
    rw [List.getElem?_take] at hj
    split at hj
    · exact hne j p (by omega) hj
    · cases hj
  · intro p hp
    obtain ⟨j, hj⟩ := List.getElem?_of_mem hp
    rw [List.getElem?_drop] at hj
    exact hne _ p (by omega) hj
  · intro o' P' s' hP' F' N' hg hd ho'
    refine ⟨F', ⟨fun p hp => ?_, by rw [nodup_set_same hi]; exact S.N.2⟩, S.len, S.low, hg.trans S.g, hd.trans S.d, ho'.trans S.o⟩
    have ha := S.N.1 _ (List.mem_of_getElem? hi)
    rcases mem_set_cases hp with rfl | ⟨j, hj, ej⟩
    · exact ⟨⟨o', (N' (a, o') (by simp)).1, hP'⟩, ha.2⟩
    · obtain ⟨oj, hoj, hpj⟩ := k j p ej
      have hr := S.N.1 p (List.mem_of_getElem? ej)
      refine ⟨⟨oj, (N' (p.1, oj) ?_).1, hpj⟩, hr.2⟩
      rcases Nat.lt_or_ge j i with h | h
      · refine List.mem_append_left _ (List.mem_of_getElem? (i := j) ?_)
        rw [List.getElem?_take, if_pos h]; exact hoj
      · refine List.mem_append_right _ (List.mem_cons_of_mem _ (List.mem_of_getElem? (i := j - (i + 1)) ?_))
        rw [List.getElem?_drop, show i + 1 + (j - (i + 1)) = j by omega]; exact hoj

theorem upd_of {pre post : List (Addr × Obj)} {a : Addr} {o o' : Obj} (h1 : ∀ p ∈ pre, p.1 ≠ a) (h2 : ∀ p ∈ post, p.1 ≠ a) : Upd a o o' (pre ++ (a, o) :: post) (pre ++ (a, o') :: post) := by
  induction pre with
  | nil => exact .head h2
  | cons p r ih => exact .tail (h1 p List.mem_cons_self) (ih fun q hq => h1 q (List.mem_cons_of_mem _ hq))

/-- self.name = v -/
theorem s_setattr {Q : Unit → Shared → Prop} {v : Value} (S : St h₀ L ns vs l b s) (X₀ : K.In h₀) (i : Nat) (hi : l[i]? = some (dx, AFld w fs)) (hx : s.heap.get? x = some (instObj C dx))
    (hs : findIn K (.ref C) "__setattr__" = some (some (.builtin "object.__setattr__"))) (hp : plainOver K C = true) (ht : takerIn K C name = some none) (hh : hasDictIn K C = true) (hz : Nat.ble fs.length 900 = true)
    (h : ∀ s', St h₀ L ns vs (l.set i (dx, AFld w (fPut name v fs))) b s' → Q () s') : wpAny (model prog w) A (setAttr (.ref x) name v) Q E s := by
  obtain ⟨pre, post, o, ⟨es, n, rfl, f⟩, N, h1, h2, back⟩ := S.news hi
  have hget := (N (dx, dictOf es n) (by simp)).1
  refine set_dict S.F X₀ N (⟨hx, rfl, rfl, hget⟩ : InstAt s.heap x (instObj C dx) C (some (dictOf es n))) rfl hs hp ht hh (by rw [f.get]; rfl) rfl (upd_of h1 h2) ?_ ?_
  · have := f.put (x := name) (v := v) (t := s.toks + 1)
    rw [this.length]
    have a := fPut_length name v fs
    have := Nat.le_of_ble_eq_true hz
    omega
  · intro h' F' N'
    exact h _ (back (s' := { s with heap := h', toks := s.toks + 2 }) _ _ ⟨_, _, rfl, f.put⟩ F' N' rfl rfl rfl)
end
end Mine
end

section
set_option maxRecDepth 100000
set_option maxHeartbeats 400000
set_option linter.unusedVariables false
namespace Mine
open PySem PySem.W PySem.Calls PyProof.Rows

def AEmpty : Assn := fun o => o = { cls := .type "dict", data := .dict #[] }

section
variable {prog : Program} {w : World} {A : Around} {E : Value → Shared → Prop} {s : Shared}
theorem d0_typeCall : checkTypeCall "dict" ⟨[], []⟩ = pure () := by kernel_rfl
theorem d0_newCall : checkBuiltinCall "dict.__new__" ⟨[.type "dict"], []⟩ = pure () := by kernel_rfl
theorem d0_code_new {Q₁ : Value → Shared → Prop} (h : Q₁ (.ref s.heap.objs.size) { s with heap := s.heap.push { cls := .type "dict", data := .dict #[] } }) :
    codeAny (model prog w) A (.call (.builtin "dict.__new__") ⟨[.type "dict"], []⟩) (wants Q₁ E) s := by
  refine codeAny_call_builtin PySem.F.kt_plain_dict_new PySem.F.kt_entry_dict_new (wpAny_of_eq d0_newCall ?_)
  have hsub := PySem.F.kt_sub_dict
  have hmro := PySem.F.kt_mro_dict
  obtain ⟨hp, g, d, tk, os⟩ := s
  unfold Builtin.«dict.__new__»
  wp_walk
  exact h
theorem call_dict0 {Q : Value → Shared → Prop} (h : Q (.ref s.heap.objs.size) { s with heap := s.heap.push { cls := .type "dict", data := .dict #[] } }) :
    wpAny (model prog w) A (call (.type "dict") []) Q E s := by
  refine callType_codes (Q₁ := fun obj s₁ => obj = .ref s.heap.objs.size ∧ s₁ = { s with heap := s.heap.push { cls := .type "dict", data := .dict #[] } }) PySem.F.kt_called_dict d0_typeCall PySem.F.entry_dict_init (d0_code_new ⟨rfl, rfl⟩) ?_
  rintro obj s₁ ⟨rfl, rfl⟩
  have hnew : (s.heap.push { cls := .type "dict", data := .dict #[] }).DictOf (intKind prog w) s.heap.objs.size [] := Heap.DictOf.new s.heap
  refine ⟨hnew.typeIs, PySem.F.args_dict_init_1 _, ?_⟩
  unfold Builtin.«dict.__init__»
  refine wpAny_bind ?_
  unfold Builtin.Dict.selfAndRest
  refine wpAny_bind (wpAny_notOrdered_dict hnew.typeIs ?_)
  show wpAny _ _ (pure (s.heap.objs.size, [])) _ _ _
  refine wpAny_pure ?_
  show wpAny _ _ (Builtin.Dict.addKeywords s.heap.objs.size [] >>= _) _ _ _
  exact wpAny_bind (wpAny_pure (wpAny_pure ⟨rfl, h⟩))
end

section
variable {prog : Program} {w : World} {A : Around} {E : Value → Shared → Prop} {h₀ : Heap} {L : Addr} {ns : List Str} {vs : List (Option Value)} {l : List (Addr × Assn)} {b s : Shared} {env : Env}
  {K : Type} [DecidableEq K] {knd : PySem.KeyKind prog w K} {kvs : List (K × Value)} {k : K} {key : Value} {a : Addr}

/-- another word for what an object of the ledger is -/
theorem St.mono (S : St h₀ L ns vs l b s) {i : Nat} {P P' : Assn} (hi : l[i]? = some (a, P)) (h : ∀ o, P o → P' o) : St h₀ L ns vs (l.set i (a, P')) b s := by
  obtain ⟨o, e, p⟩ := S.at hi
  exact S.upd hi (fun _ _ _ e => e) rfl rfl rfl e (h o p)

theorem empty_dict (knd : PySem.KeyKind prog w K) (o : Obj) (h : AEmpty o) : ADict knd [] o := by
  have := Heap.DictOf.new (knd := knd) ({} : Heap)
  obtain ⟨o', ho', hd⟩ := Heap.dictOf_iff.mp this
  rw [Heap.get?_push_size _ rfl] at ho'
  cases ho'
  cases h
  exact hd
theorem fld_pairs {P : Params} : ∀ {fs : List (Str × Value)} {es : List DictEntry}, FldsAre w.params fs es → Pairs (strKind prog w) es fs
  | _, _, .nil => .nil
  | _, _, .cons h => .cons (strKind_is _ _ _ _) rfl (fld_pairs (P := P) h)
theorem flds_key {fs : List (Str × Value)} {es : List DictEntry} (h : FldsAre w.params fs es) : ∀ e ∈ es, ∃ x t, e.key = .str x t ∧ e.hash = PyData.keyHash w.params x := by
  induction h with
  | nil => intro e he; cases he
  | cons _ ih =>
    intro e he
    rcases List.mem_cons.mp he with rfl | he
    · exact ⟨_, _, rfl, rfl⟩
    · exact ih e he
theorem fld_dict (prog : Program) {fs : List (Str × Value)} (hn : (fs.map (·.1)).Nodup) (o : Obj) (h : AFld w fs o) : ADict (strKind prog w) fs o := by
  obtain ⟨es, n, rfl, f⟩ := h
  refine ⟨es.toArray, n, ⟨rfl, rfl, rfl⟩, rfl, ?_, by simpa using fld_pairs (P := w.params) f, hn⟩
  intro e he
  obtain ⟨x, t, e1, e2⟩ := flds_key f e (by simpa using he)
  exact ⟨x, by rw [e1]; exact strKind_is _ _ _ _, e2⟩

theorem s_dict0 {Q : Value → Shared → Prop} (S : St h₀ L ns vs l b s) (h : ∀ a s', St h₀ L ns vs ((a, AEmpty) :: l) b s' → Q (.ref a) s') : wpAny (model prog w) A (call (.type "dict") []) Q E s :=
  call_dict0 (h _ _ (S.alloc rfl rfl))
theorem s_dictLit {pos : Pos} {Q : Value → Shared → Prop} (S : St h₀ L ns vs l b s) (h : ∀ a s', St h₀ L ns vs ((a, AEmpty) :: l) b s' → Q (.ref a) s') : wpAny (model prog w) A (eval (.Dict [] [] pos) env) Q E s :=
  wpAny_Dict_empty (h _ _ (S.alloc rfl rfl))

theorem s_dmeth {name : Str} {id : String} {pl : Sem Bool} {Q : Value × List Value → Shared → Prop} (slot : Slot "dict" name id) (ty : typeOf (.builtin id) = pure (.type "method_descriptor")) (hd : s.heap.DictOf knd a kvs) (h : Q (.builtin id, [.ref a]) s) :
    wpAny (model prog w) A (getMethod (.ref a) name pl) Q E s := getMethod_builtin hd.typeIs PySem.F.plainAttrs_dict slot ty hd.mapOf.noDict h
theorem s_dget1 {Q : Value → Shared → Prop} (S : St h₀ L ns vs l b s) (hd : s.heap.DictOf knd a kvs) (lo : (a == sysModules) = false) (hkey : knd.is k key = true) (x : Option Value) (hl : valueAt kvs k = x) (h : ∀ s', St h₀ L ns vs l b s' → Q (x.getD .none) s') :
    wpAny (model prog w) A (call (.builtin "dict.get") [.ref a, key]) Q E s :=
  call_meetsIn PySem.F.slot_dict_get hd.typeIs PySem.F.entry_dict_get (PySem.F.args_dict_get_2 _ _) (meets_dict_get knd a hkey lo) ⟨_, hd.mapOf, by rw [hl]; exact h _ (S.tok _)⟩
theorem s_dget2 {dflt : Value} {Q : Value → Shared → Prop} (S : St h₀ L ns vs l b s) (hd : s.heap.DictOf knd a kvs) (lo : (a == sysModules) = false) (hkey : knd.is k key = true) (x : Option Value) (hl : valueAt kvs k = x) (h : ∀ s', St h₀ L ns vs l b s' → Q (x.getD dflt) s') :
    wpAny (model prog w) A (call (.builtin "dict.get") [.ref a, key, dflt]) Q E s :=
  call_meetsIn PySem.F.slot_dict_get hd.typeIs PySem.F.entry_dict_get (PySem.F.args_dict_get_3 _ _ _) (meets_dict_get_default knd a hkey lo dflt) ⟨_, hd.mapOf, by rw [hl]; exact h _ (S.tok _)⟩
theorem s_din {Q : Value → Shared → Prop} (S : St h₀ L ns vs l b s) (hd : s.heap.DictOf knd a kvs) (lo : (a == sysModules) = false) (hkey : knd.is k key = true) (h : ∀ s', St h₀ L ns vs l b s' → Q (.bool (valueAt kvs k).isSome) s') :
    wpAny (model prog w) A (compareOp .In key (.ref a)) Q E s := wpAny_in_of hkey lo hd.mapOf (h _ (S.tok _))
theorem s_dnotin {Q : Value → Shared → Prop} (S : St h₀ L ns vs l b s) (hd : s.heap.DictOf knd a kvs) (lo : (a == sysModules) = false) (hkey : knd.is k key = true) (h : ∀ s', St h₀ L ns vs l b s' → Q (.bool (!(valueAt kvs k).isSome)) s') :
    wpAny (model prog w) A (compareOp .NotIn key (.ref a)) Q E s := wpAny_notIn_of hkey lo hd.mapOf (h _ (S.tok _))
theorem s_ditem {v : Value} {value slice : PySem.Expr} {Q : Value → Shared → Prop} (S : St h₀ L ns vs l b s) (hd : s.heap.DictOf knd a kvs) (hkey : knd.is k key = true) (hl : valueAt kvs k = some v) (h : ∀ s', St h₀ L ns vs l b s' → Q v s')
    (hs : subscripted slice false (.ref a) key = operate [.ref a, key] (getItem (.ref a) key) := by with_unfolding_all rfl) (hg : ∀ r, letTemporaryGo value (.ref a) r = pure () := by intro _; with_unfolding_all rfl) :
    wpAny (model prog w) A (subscriptTail value slice (.ref a) key) Q E s :=
  subscriptTail_builtin hd.typeIs slot_dict_getitem.lookup (wpAny_getItem_of hkey hd.mapOf hl (h _ (S.tok _))) hs hg
/-- the same where the dict is no name's value -/
theorem s_ditemT {v : Value} {value slice : PySem.Expr} {Q : Value → Shared → Prop} (S : St h₀ L ns vs l b s) (hd : s.heap.DictOf knd a kvs) (hkey : knd.is k key = true) (hl : valueAt kvs k = some v) (h : ∀ s', St h₀ L ns vs l b s' → Q v s')
    (hs : subscripted slice false (.ref a) key = operate [.ref a, key] (getItem (.ref a) key) := by with_unfolding_all rfl) :
    wpAny (model prog w) A (subscriptTail value slice (.ref a) key) Q E s :=
  tail_any hd.typeIs slot_dict_getitem.lookup (wpAny_getItem_of hkey hd.mapOf hl (h _ (S.tok _))) hs
theorem s_dset {v : Value} {Q : Unit → Shared → Prop} (S : St h₀ L ns vs l b s) (i : Nat) (hi : l[i]? = some (a, ADict knd kvs)) (hkey : knd.is k key = true) (hsz : kvs.length ≤ 10000)
    (h : ∀ s', St h₀ L ns vs (l.set i (a, ADict knd (stored kvs k v))) b s' → Q () s') : wpAny (model prog w) A (setItem (.ref a) key v) Q E s := by
  refine wpAny_setItem_pairs (hsz := by rw [sizeLine_eq]; omega) hkey (S.dct hi) fun h' hmm hs => ?_
  obtain ⟨o', ho', hd'⟩ := Heap.dictOf_iff.mp hmm
  exact h _ (S.upd (s' := { s with heap := h', toks := s.toks + 1 }) hi (fun c o hc e => (hs.2 c hc).trans e) rfl rfl rfl ho' hd')
theorem s_dlen {Q : Value → Shared → Prop} (S : St h₀ L ns vs l b s) (hd : s.heap.DictOf knd a kvs) (lo : (a == sysModules) = false) (hfit : kvs.length ≤ 10000) (h : ∀ t s', St h₀ L ns vs l b s' → Q (.int kvs.length t) s') :
    wpAny (model prog w) A (call (.builtin "len") [.ref a]) Q E s := call_len_dict lo hd (by omega) (h _ _ (S.tok _))
/-- d.update(o) -/
theorem s_dupdate {o : Addr} {more : List (K × Value)} {Q : Value → Shared → Prop} (S : St h₀ L ns vs l b s) (i : Nat) (hi : l[i]? = some (a, ADict knd kvs)) (hne : a ≠ o) (ho : s.heap.DictOf knd o more) (lo : (o == sysModules) = false) (hsz : kvs.length + more.length ≤ 10000)
    (h : ∀ s', St h₀ L ns vs (l.set i (a, ADict knd (merged kvs more))) b s' → Q .none s') : wpAny (model prog w) A (call (.builtin "dict.update") [.ref a, .ref o]) Q E s := by
  have hd := S.dct hi
  refine call_meetsIn PySem.F.slot_dict_update hd.typeIs PySem.F.entry_dict_update (PySem.F.args_dict_update_2 _ _) (meets_dict_update knd a o hne lo) ⟨kvs, more, hd, ho, by rw [sizeLine_eq]; omega, fun h' hm _ hs => ?_⟩
  obtain ⟨o', ho', hd'⟩ := Heap.dictOf_iff.mp hm
  exact h _ (S.upd (s' := { s with heap := h' }) hi (fun c o hc e => (hs.2 c hc).trans e) rfl rfl rfl ho' hd')
end
end Mine
end

section
set_option maxRecDepth 100000
set_option maxHeartbeats 400000
set_option linter.unusedVariables false
set_option autoImplicit false
namespace Mine
section
open PySem PySem.W PySem.Calls PyProof.Rows
variable {h₀ : Heap} {L : Addr} {ns : List Str} {vs : List (Option Value)} {l : List (Addr × Assn)} {b s : Shared}
theorem St.ne (S : St h₀ L ns vs l b s) (i j : Nat) {a c : Addr} {P P' : Assn} (hi : l[i]? = some (a, P)) (hj : l[j]? = some (c, P')) (hij : Nat.beq i j = false) : a ≠ c := by
  rintro rfl
  have : i = j := nodup_idx S.N.2 (x := a) (by rw [List.getElem?_map, hi]; rfl) (by rw [List.getElem?_map, hj]; rfl)
  subst this
  rw [Nat.beq_refl] at hij
  cases hij

theorem pick_nodup {pre : List (Addr × Assn)} (hn : (pre.map (·.1)).Nodup) : ∀ {js : List Nat}, js.Nodup → ((js.filterMap (pre[·]?)).map (·.1)).Nodup ∧ ∀ p ∈ js.filterMap (pre[·]?), ∃ j ∈ js, pre[j]? = some p
  | [], _ => ⟨by simp, by simp⟩
  | j :: js, hj => by
    obtain ⟨h1, h2⟩ := List.nodup_cons.mp hj
    obtain ⟨a, c⟩ := pick_nodup hn h2
    cases e : pre[j]? with
    | none =>
      simp only [List.filterMap_cons, e]
      exact ⟨a, fun p hp => let ⟨i, hi, q⟩ := c p hp; ⟨i, List.mem_cons_of_mem _ hi, q⟩⟩
    | some q =>
      simp only [List.filterMap_cons, e, List.map_cons, List.nodup_cons]
      refine ⟨⟨fun hm => ?_, a⟩, fun p hp => ?_⟩
      · obtain ⟨p, hp, e'⟩ := List.mem_map.mp hm
        obtain ⟨i, hi, e2⟩ := c p hp
        have : i = j := nodup_idx hn (x := q.1) (by rw [List.getElem?_map, e2]; simp [e']) (by rw [List.getElem?_map, e]; rfl)
        exact h1 (this ▸ hi)
      · rcases List.mem_cons.mp hp with rfl | hp
        · exact ⟨j, List.mem_cons_self, e⟩
        · obtain ⟨i, hi, q⟩ := c p hp; exact ⟨i, List.mem_cons_of_mem _ hi, q⟩
/-- the ledger's front in another order, or less of it -/
theorem St.pick {pre rest : List (Addr × Assn)} (S : St h₀ L ns vs (pre ++ rest) b s) (js : List Nat) (hjs : decide js.Nodup = true) : St h₀ L ns vs (js.filterMap (pre[·]?) ++ rest) b s := by
  have hn := S.N.2
  rw [List.map_append, List.nodup_append] at hn
  obtain ⟨a, c⟩ := pick_nodup hn.1 (of_decide_eq_true hjs)
  refine S.weaken (fun p hp => ⟨p, ?_, rfl, fun _ h => h⟩) ?_
  · rcases List.mem_append.mp hp with hp | hp
    · obtain ⟨j, _, e⟩ := c p hp
      exact List.mem_append_left _ (List.mem_of_getElem? e)
    · exact List.mem_append_right _ hp
  · rw [List.map_append, List.nodup_append]
    refine ⟨a, hn.2.1, fun x hx y hy => ?_⟩
    obtain ⟨p, hp, rfl⟩ := List.mem_map.mp hx
    obtain ⟨j, _, e⟩ := c p hp
    exact hn.2.2 _ (List.mem_map_of_mem (List.mem_of_getElem? e)) y hy
end
open PySem PySem.W PySem.Calls PyProof.Rows Builtin Builtin.ObjectAttr Builtin.Getset_descriptor

theorem ty_dict : typeOf (.type "dict") = pure (.type "type") := by kernel_rfl
theorem ty_get : typeLookup (.type "type") "__get__" = pure none := by rw [typeLookup_type, builtinLookup_eq_fast]; kernel_rfl
theorem looks_getOf_dict {M : Model} {h : Heap} : Looks M h (getOf (some (.type "dict"))) none := by
  show Looks M h (specialOf (.type "dict") "__get__") none
  exact (Looks.of_pure ty_dict).andThen (Looks.of_pure ty_get)

theorem looks_find_type {K : Frag} {M : Model} {h : Heap} (X : K.In h) {x C : Addr} {ox : Obj} {od : Option Obj} {name : Str} {T : String} (I : InstAt h x ox C od) (ha : findIn K (.ref C) name = some (some (.type T)))
    (hT : Looks M h (getOf (some (.type T))) none) {cd : ClassData} (hcd : clsIn K C = some cd) (ho : ownOf cd od name = some none) (hc : copiedNames.contains name = false) : Looks M h (find (.ref x) (.ref C) name) (.value (.type T)) := by
  refine (looks_findIn (M := M) X ha).andThen (hT.andThen (Looks.now.andThen ?_))
  refine (looks_own X I hcd ho).andThen ?_
  have G : Looks M h (copiedAttributeGuard name (.ref x)) () := by
    unfold copiedAttributeGuard
    dsimp only
    rw [if_neg (fun q => by rw [show copiedNames.contains name = true from q] at hc; cases hc)]
    exact .now
  exact G.andThen (Looks.tag ((Looks.of_pure (handedOut_of rfl)).andThen .now))

section
variable {prog : Program} {w : World} {A : Around} {E : Value → Shared → Prop} {h₀ : Heap} {L : Addr} {ns : List Str} {vs : List (Option Value)} {l : List (Addr × Assn)} {b s : Shared} {env : Env} {K : Frag} {x C dx : Addr} {fs : List (Str × Value)} {name : Str}

/-- a class's attribute that is the type dict, called through the object: self.factory() -/
theorem s_factory {pl : Sem Bool} {Q : Value × List Value → Shared → Prop} (S : St h₀ L ns vs l b s) (X₀ : K.In h₀) (I : Inst w s.heap x C dx fs) (hg : plainGet K C name = true) (hh : hasDictIn K C = true) (ha : findIn K (.ref C) name = some (some (.type "dict")))
    (hc : copiedNames.contains name = false) (hl : fGet name fs = none) (h : ∀ s', St h₀ L ns vs l b s' → Q (.type "dict", []) s') : wpAny (model prog w) A (getMethod (.ref x) name pl) Q E s := by
  obtain ⟨es, n, IA, f⟩ := I.of
  have X := X₀.keeps S.F.keep
  have hcan := PySem.F.canon_object_ga
  obtain ⟨hga, hk⟩ := plainGet_of hg
  have S' := S.tok (s.toks + 1)
  have value : wpAny (model prog w) A (getAttr (.ref x) name) (fun v => Q (v, [])) E s := by
    refine get_open X IA hga ?_
    obtain ⟨cd, hcd, hd⟩ := any_some hh
    have hown : W.ownOf cd (some (dictOf es n)) name = some none := by
      unfold W.ownOf
      rw [if_pos hd]
      show lookIn name (dictOf es n) = _
      rw [lookIn_dict, f.get, hl]
    have L1 := looks_find_type (M := model prog w) X IA ha looks_getOf_dict hcd hown hc
    have L0 := IA.type (M := model prog w)
    obtain ⟨hh', g, d, t, os⟩ := s
    refine wpAny_bind (wpAny_pure (wpAny_bind (L0.at (wpAny_bind (L1.at ?_)))))
    refine wpAny_pure ?_
    show wpAny _ _ (handedOut (.type "dict")) _ _ _
    rw [handedOut_of rfl]
    exact wpAny_pure (h _ S')
  have u : wpAny (model prog w) A (do return (← getAttr (.ref x) name, ([] : List Value))) Q E s := wpAny_bind (wpAny_mono value (fun _ _ z => wpAny_pure z) fun _ _ z => z)
  unfold getMethod specialOf
  refine wpAny_bind (wpAny_bind (IA.type.here ((looks_findIn X hga).here ?_)))
  dsimp only
  rw [hcan, if_neg (by decide)]
  refine wpAny_bind (wpAny_bind (IA.type.here ((looks_findIn X hk).here ?_)))
  refine wpAny_bind (wpAny_bind (IA.type.here ((looks_findIn X ha).here ?_)))
  dsimp only
  refine wpAny_bind ((Looks.of_pure (M := model prog w) (h := s.heap) ty_dict).here ?_)
  rw [if_pos (by decide)]; exact u
end
end Mine
end

section
set_option maxRecDepth 100000
set_option maxHeartbeats 400000
set_option linter.unusedVariables false
namespace Mine
open PySem PySem.W PySem.Calls PyProof.Rows

/-- the program's globals, as they stand in a heap -/
structure Wd (w : World) (h : Heap) : Prop where
  X : (hd.heap_39 w.params).In h
  T : ∃ (loose : List Str) (mean : ExcName → Option Value) (mg mb : Str → Option Value), Top topProg loose mean mg mb h

theorem Wd.keep {w : World} {h h' : Heap} (W : Wd w h) (k : ∀ a o, h.get? a = some o → h'.get? a = some o) : Wd w h' :=
  ⟨W.X.keeps k, let ⟨lo, me, mg, mb, T⟩ := W.T; ⟨lo, me, mg, mb, T.keeps k⟩⟩
theorem Wd.low {w : World} {h : Heap} (W : Wd w h) : sysModules < h.objs.size := let ⟨_, _, _, _, T⟩ := W.T; modules_low T.nolimit
theorem Wd.nolimit {w : World} {h : Heap} (W : Wd w h) : h.NoLimit := let ⟨_, _, _, _, T⟩ := W.T; T.nolimit

/-- room below -/
structure Rm (A : Around) (k : Nat) : Prop where
  hh : A.handled = none
  dep : A.depth + k ≤ 900
  uni : A.units + 20 * k ≤ 9000
theorem Rm.deeper {A : Around} {k : Nat} (r : Rm A (k + 1)) (env : Env) : Rm (A.deeper env) k := by
  refine ⟨r.hh, ?_, ?_⟩
  · have := r.dep; show A.depth + 1 + k ≤ 900; omega
  · have := r.uni; show A.units + 3 + 20 * k ≤ 9000; omega
theorem Rm.in1 {A : Around} {k : Nat} (r : Rm A (k + 1)) : Rm A.in1 k := by
  refine ⟨r.hh, ?_, ?_⟩
  · have := r.dep; show A.depth + k ≤ 900; omega
  · have := r.uni; show A.units + 1 + 20 * k ≤ 9000; omega
theorem Rm.le {A : Around} {k j : Nat} (r : Rm A k) (h : j ≤ k) : Rm A j := ⟨r.hh, by have := r.dep; omega, by have := r.uni; omega⟩
theorem Rm.room {A : Around} {k : Nat} (r : Rm A k) : A.depth < recursionLimit := by have := r.dep; show A.depth < 1000; omega
theorem Rm.units {A : Around} {k : Nat} (r : Rm A k) : A.units < cLine := by have := r.uni; show A.units < 9900; omega

def evOk (sc : Scope) (ns : List Str) : Bool :=
  sc.kind == .function && !sc.isCoroutine && !sc.isGenerator && ns.all (fun x => sc.names.lookup x == some .local && !(x == ("__debug__" : Str))) && decide ns.Nodup
def noCell (sc : Scope) : Bool := sc.names.all fun x => !(x.2 == .cell)

def retOf : Flow → Value
  | .ret v => v
  | _ => .none

theorem ev_of {sc : Scope} {ns : List Str} (h : evOk sc ns = true) {env : Env} {L : Addr} (hs : env.scope = sc) (hL : env.locals = L) (hg : env.globals = mainGlobals) (hb : env.builtins = builtinsNs) : Ev env L ns := by
  simp only [evOk, Bool.and_eq_true, List.all_eq_true, beq_iff_eq, Bool.not_eq_true', decide_eq_true_eq] at h
  obtain ⟨⟨⟨⟨h1, _⟩, _⟩, h2⟩, h3⟩ := h
  subst hs
  exact ⟨h1, hL, fun x hx => (h2 x hx).1, fun x hx => (h2 x hx).2, h3, hg, hb⟩

/-- the binder's work on names and values -/
def zipB : List Str → List (Option Value) → List (Str × Value)
  | n :: ns, some v :: vs => (n, v) :: zipB ns vs
  | _, _ => []
theorem zipB_mem {x : Str} {v : Value} : ∀ {ns : List Str} {vs : List (Option Value)}, (x, v) ∈ zipB ns vs → ∃ i : Nat, ns[i]? = some x ∧ vs[i]? = some (some v)
  | [], vs, h => by cases vs <;> simp [zipB] at h
  | n :: ns, [], h => by simp [zipB] at h
  | n :: ns, none :: vs, h => by simp [zipB] at h
  | n :: ns, some u :: vs, h => by
    simp only [zipB, List.mem_cons, Prod.mk.injEq] at h
    rcases h with ⟨rfl, rfl⟩ | h
    · exact ⟨0, rfl, rfl⟩
    · obtain ⟨i, a, b⟩ := zipB_mem h
      exact ⟨i + 1, by simpa using a, by simpa using b⟩
theorem zipB_fm : ∀ {ns : List Str} {ws : List Value} {k : Nat}, ns.Nodup → ns.length = ws.length + k → (fun y => (zipB ns (ws.map some ++ List.replicate k none)).reverse.lookup y) = fm ns (ws.map some ++ List.replicate k none) := by
  intro ns ws k hn hl
  have hmap : ∀ (ns : List Str) (ws : List Value), (zipB ns (ws.map some ++ List.replicate k none)).map (·.1) = ns.take ws.length ∨ ns.length < ws.length := by
    intro ns ws
    induction ws generalizing ns with
    | nil => left; cases ns <;> cases k <;> simp [zipB, List.replicate_succ]
    | cons u ws ih =>
      cases ns with
      | nil => right; simp
      | cons n ns =>
        rcases ih ns with e | e
        · left; simp [zipB, e]
        · right; simpa using e
  refine fm_binds hn (by simp [hl]) ?_ (fun p hp => zipB_mem hp) ?_
  · rcases hmap ns ws with e | e
    · rw [e]; exact hn.sublist (List.take_sublist _ _)
    · omega
  · have key : ∀ (ns : List Str) (ws : List Value) (i : Nat) (x : Str) (v : Value), ns[i]? = some x → (ws.map some ++ List.replicate k none)[i]? = some (some v) → (x, v) ∈ zipB ns (ws.map some ++ List.replicate k none) := by
      intro ns ws
      induction ws generalizing ns with
      | nil =>
        intro i x v _ h
        simp only [List.map_nil, List.nil_append] at h
        have := List.mem_of_getElem? h
        simp at this
      | cons u ws ih =>
        intro i x v hx hv
        cases ns with
        | nil => simp at hx
        | cons n ns =>
          cases i with
          | zero => simp at hx hv; subst hx; subst hv; simp [zipB]
          | succ i =>
            simp at hx hv
            simp only [List.map_cons, List.cons_append, zipB, List.mem_cons]
            right
            exact ih ns i x v hx (by simpa using hv)
    exact fun i x v => key ns ws i x v

section
variable {w : World} {A : Around} {s : Shared} {R : Result → Shared → Prop} {f : Addr} {args : Args} {fo : Obj} {fd : FuncData} {body : List Stmt} {k : Nat}

/-- A CALL OF A DEF of the text (no cells of its own); lm: the objects lent to it, which it may turn. -/
theorem call_fn (ns : List Str) (ws : List Value) (z : Nat) (vs : List (Option Value)) (hvs : vs = ws.map some ++ List.replicate z none) (lm : List (Addr × Assn)) (W : Wd w (hideAll s.heap (lm.map (·.1)))) (hl : ∀ p ∈ lm, (∃ o, s.heap.get? p.1 = some o ∧ p.2 o) ∧ (p.1 == sysModules) = false) (hn : (lm.map (·.1)).Nodup)
    (r : Rm A (k + 1)) (ho : (hd.heap_39 w.params).lookup f = some fo) (hdat : fo.data = .func fd) (hbody : fd.body = .stmts body) (hcd : codeIn (hd.heap_39 w.params) fd.code fd.qualname = true)
    (hev : evOk fd.scope ns = true) (hnc : noCell fd.scope = true) (hgl : fd.globals = mainGlobals) (hbl : fd.builtins = builtinsNs) (hlen : ns.length = ws.length + z)
    (hbind : BindsTo s fd args (zipB ns vs))
    (h : ∀ L s', St (hideAll s.heap (lm.map (·.1))) L ns vs lm s s' → Ev (callEnv fd L f) L ns → Rm (A.deeper (callEnv fd L f)) k →
      wpAny (model PySem.Challenge.pw_ab5042_01 w) (A.deeper (callEnv fd L f)) (execs body (callEnv fd L f)) (fun fl s'' => R (.ok (.ret (retOf fl))) s'') (fun _ _ => False) s') :
    codeAny (model PySem.Challenge.pw_ab5042_01 w) A (.call (.ref f) args) R s := by
  subst hvs
  have hev' := hev
  simp only [evOk, Bool.and_eq_true, List.all_eq_true, beq_iff_eq, Bool.not_eq_true', decide_eq_true_eq] at hev'
  obtain ⟨⟨⟨⟨h1, h4⟩, h5⟩, h2⟩, h3⟩ := hev'
  have hnl : (s.heap).NoLimit := W.nolimit.keeps fun a o e => of_hideAll _ e
  have hX : (hd.heap_39 w.params).In s.heap := W.X.keeps fun a o e => of_hideAll _ e
  refine codeAny_call_def r.room (hX _ _ ho) hdat hnl (codeRec_of hX hcd) hbody hbind ?_ ?_ (fun h' hns hk => ?_) h4 h5 h1
  · intro x hx
    simp only [noCell, List.all_eq_true, Bool.not_eq_true', beq_eq_false_iff_ne] at hnc
    exact hnc x hx
  · intro x hx
    obtain ⟨i, a, _⟩ := zipB_mem (x := x.1) (v := x.2) hx
    exact (h2 x.1 (List.mem_of_getElem? a)).1
  · have S : St (hideAll s.heap (lm.map (·.1))) s.heap.objs.size ns (ws.map some ++ List.replicate z none) lm s { s with heap := h', toks := s.toks + (zipB ns (ws.map some ++ List.replicate z none)).length } := by
      refine ⟨⟨?_, fun a o e => hk a o (of_hideAll _ e), Nat.le_of_eq (hideAll_size _ _)⟩, ⟨fun p hp => ?_, hn⟩, by simp [hlen], W.low, rfl, rfl, rfl⟩
      · rw [← zipB_fm h3 hlen]; exact hns
      · obtain ⟨⟨o, a, c⟩, lo⟩ := hl p hp
        exact ⟨⟨o, hk _ _ a, c⟩, Nat.ne_of_lt (Heap.lt_size a), hideAll_none _ (List.mem_map_of_mem hp), lo⟩
    refine wpAny_mono (h _ _ S (ev_of hev rfl rfl hgl hbl) (r.deeper _)) (fun fl s' x => ?_) (fun _ _ x => x.elim)
    cases fl <;> exact x

/-- nothing lent -/
theorem call_fn0 (ns : List Str) (ws : List Value) (z : Nat) (vs : List (Option Value)) (hvs : vs = ws.map some ++ List.replicate z none) (W : Wd w s.heap)
    (r : Rm A (k + 1)) (ho : (hd.heap_39 w.params).lookup f = some fo) (hdat : fo.data = .func fd) (hbody : fd.body = .stmts body) (hcd : codeIn (hd.heap_39 w.params) fd.code fd.qualname = true)
    (hev : evOk fd.scope ns = true) (hnc : noCell fd.scope = true) (hgl : fd.globals = mainGlobals) (hbl : fd.builtins = builtinsNs) (hlen : ns.length = ws.length + z)
    (hbind : BindsTo s fd args (zipB ns vs))
    (h : ∀ L s', St s.heap L ns vs [] s s' → Ev (callEnv fd L f) L ns → Rm (A.deeper (callEnv fd L f)) k →
      wpAny (model PySem.Challenge.pw_ab5042_01 w) (A.deeper (callEnv fd L f)) (execs body (callEnv fd L f)) (fun fl s'' => R (.ok (.ret (retOf fl))) s'') (fun _ _ => False) s') :
    codeAny (model PySem.Challenge.pw_ab5042_01 w) A (.call (.ref f) args) R s :=
  call_fn ns ws z vs hvs [] W (fun _ h => (nomatch h)) List.nodup_nil r ho hdat hbody hcd hev hnc hgl hbl hlen hbind h
end

section
variable {w : World} {A : Around} {E : Value → Shared → Prop} {h₀ : Heap} {L : Addr} {ns : List Str} {vs : List (Option Value)} {l : List (Addr × Assn)} {b s : Shared} {env : Env}

theorem Wd.at (W : Wd w h₀) (S : St h₀ L ns vs l b s) : Wd w s.heap := W.keep S.F.keep

/-- a global name that the text binds -/
theorem ld_g (e : Ev env L ns) (W : Wd w h₀) (S : St h₀ L ns vs l b s) (v : Value) {x : Str} {pos : Pos} {Q : Value → Shared → Prop} (hg : nsIn (hd.heap_39 w.params) mainGlobals x = some (some v)) (hx : env.kindOf x = some .globalImplicit) (h : Q v s)
    (hd : (x == ("__debug__" : Str)) = false := by decide) : wpAny (model PySem.Challenge.pw_ab5042_01 w) A (eval (.Name x pos) env) Q E s := by
  obtain ⟨_, _, mg, mb, T⟩ := W.T
  have hm := mg_of W.X T.g hg
  have hn := T.g.keeps S.F.keep
  rw [← e.glob] at hn
  exact Calls.Name_function_global e.kind hx (Calls.loadGlobal_global hn hm h) hd
/-- a built-in name -/
theorem ld_b (e : Ev env L ns) (W : Wd w h₀) (S : St h₀ L ns vs l b s) (v : Value) {x : Str} {pos : Pos} {Q : Value → Shared → Prop} (hg : nsIn (hd.heap_39 w.params) mainGlobals x = some none) (hx : env.kindOf x = some .globalImplicit) (hv : bootBuiltins x = some v) (hne : x ≠ "__name__") (h : Q v s)
    (hd : (x == ("__debug__" : Str)) = false := by decide) : wpAny (model PySem.Challenge.pw_ab5042_01 w) A (eval (.Name x pos) env) Q E s := by
  obtain ⟨_, _, mg, mb, T⟩ := W.T
  have hm := mg_none_of W.X T.g hg
  have hn := T.g.keeps S.F.keep
  have hb := T.b.keeps S.F.keep
  rw [← e.glob] at hn
  rw [← e.blt] at hb
  exact Calls.Name_function_global e.kind hx (Calls.loadGlobal_builtin hn hm hb ((T.builtins x hne).trans hv) h) hd

variable {M : Model} {f : Addr} {pos : Pos}
theorem cw_f0 {Q : Value → Shared → Prop} (W : Wd w s.heap) (hk : keepIn (hd.heap_39 w.params) (.ref f) = true) (h : wpAny M A (call (.ref f) []) Q E s) : wpAny M A (callWith pos (.ref f) [] (backTo pos (starEach [] env)) []) Q E s :=
  callWith_K0 W.X hk h
theorem cw_f1 {e : Expr} {Q : Value → Shared → Prop} (W : Wd w h₀) (hk : keepIn (hd.heap_39 w.params) (.ref f) = true)
    (h : wpAny M A (eval e env) (fun v s₁ => Wd w s₁.heap ∧ wpAny M A (call (.ref f) [v]) Q E s₁) E s) (he : starEach [e] env = (false, eval e env) :: starEach [] env := by rfl) :
    wpAny M A (callWith pos (.ref f) [] (backTo pos (starEach [e] env)) []) Q E s :=
  callWith_K W.X hk (spliced_more (wpAny_mono h (fun v s₁ h₁ => spliced_none ⟨h₁.1.X, h₁.2⟩) fun _ _ x => x) he) he
theorem cw_f2 {e₁ e₂ : Expr} {Q : Value → Shared → Prop} (W : Wd w h₀) (hk : keepIn (hd.heap_39 w.params) (.ref f) = true)
    (h : wpAny M A (eval e₁ env) (fun v s₁ => wpAny M A (eval e₂ env) (fun u s₂ => Wd w s₂.heap ∧ wpAny M A (call (.ref f) [v, u]) Q E s₂) E s₁) E s)
    (he : starEach [e₁, e₂] env = (false, eval e₁ env) :: starEach [e₂] env := by rfl) (he2 : starEach [e₂] env = (false, eval e₂ env) :: starEach [] env := by rfl) :
    wpAny M A (callWith pos (.ref f) [] (backTo pos (starEach [e₁, e₂] env)) []) Q E s :=
  callWith_K W.X hk (spliced_more (wpAny_mono h (fun v s₁ h₁ => spliced_more (wpAny_mono h₁ (fun u s₂ h₂ => spliced_none ⟨h₂.1.X, h₂.2⟩) fun _ _ x => x) he2) fun _ _ x => x) he) he (by rw [he2]; rfl)
theorem cw_f3 {e₁ e₂ e₃ : Expr} {Q : Value → Shared → Prop} (W : Wd w h₀) (hk : keepIn (hd.heap_39 w.params) (.ref f) = true)
    (h : wpAny M A (eval e₁ env) (fun v s₁ => wpAny M A (eval e₂ env) (fun u s₂ => wpAny M A (eval e₃ env) (fun x s₃ => Wd w s₃.heap ∧ wpAny M A (call (.ref f) [v, u, x]) Q E s₃) E s₂) E s₁) E s)
    (he : starEach [e₁, e₂, e₃] env = (false, eval e₁ env) :: starEach [e₂, e₃] env := by rfl) (he2 : starEach [e₂, e₃] env = (false, eval e₂ env) :: starEach [e₃] env := by rfl) (he3 : starEach [e₃] env = (false, eval e₃ env) :: starEach [] env := by rfl) :
    wpAny M A (callWith pos (.ref f) [] (backTo pos (starEach [e₁, e₂, e₃] env)) []) Q E s :=
  callWith_K W.X hk (spliced_more (wpAny_mono h (fun v s₁ h₁ => spliced_more (wpAny_mono h₁ (fun u s₂ h₂ => spliced_more (wpAny_mono h₂ (fun u s₂ h₂ => spliced_none ⟨h₂.1.X, h₂.2⟩) fun _ _ x => x) he3) fun _ _ x => x) he2) fun _ _ x => x) he) he (by rw [he2, he3]; rfl)
end
end Mine
end

section
set_option maxRecDepth 100000
set_option maxHeartbeats 400000
set_option linter.unusedVariables false
namespace Mine
open PySem PySem.W PySem.Calls PyProof.Rows

section
variable {w : World} {h₀ : Heap} {L : Addr} {ns : List Str} {vs : List (Option Value)} {l : List (Addr × Assn)} {b s : Shared}

theorem hide_get {h : Heap} {as : List Addr} {a : Addr} {o : Obj} (e : h.get? a = some o) (n : a ∉ as) : (hideAll h as).get? a = some o := hideAll_get _ e n

/-- what a call leaves, back in the caller's words -/
theorem St.join (S : St h₀ L ns vs l b s) {lm rest : List (Addr × Assn)} (hlm : ∀ p ∈ lm, p ∈ l) (hrest : ∀ p ∈ rest, p ∈ l) (hnd : ((lm ++ rest).map (·.1)).Nodup)
    {L' : Addr} {ns' : List Str} {vs' : List (Option Value)} {l' : List (Addr × Assn)} {s' : Shared} (S' : St (hideAll s.heap (lm.map (·.1))) L' ns' vs' l' s s') : St h₀ L ns vs (l' ++ rest) b s' := by
  have hL : L ∉ lm.map (·.1) := fun h => by
    obtain ⟨p, hp, e⟩ := List.mem_map.mp h
    exact (S.N.1 p (hlm p hp)).2.1 e
  have h0 : ∀ a o, h₀.get? a = some o → (hideAll s.heap (lm.map (·.1))).get? a = some o := fun a o e => hide_get (S.F.keep a o e) fun h => by
    obtain ⟨p, hp, q⟩ := List.mem_map.mp h
    have := (S.N.1 p (hlm p hp)).2.2.1
    rw [q, e] at this; cases this
  rw [List.map_append, List.nodup_append] at hnd
  have hr : ∀ p ∈ rest, p.1 ∉ lm.map (·.1) := fun p hp h => hnd.2.2 _ h _ (List.mem_map_of_mem hp) rfl
  have hrl : ∀ p ∈ rest, ∃ o, (hideAll s.heap (lm.map (·.1))).get? p.1 = some o ∧ p.2 o := fun p hp => by
    obtain ⟨⟨o, a, c⟩, _⟩ := S.N.1 p (hrest p hp)
    exact ⟨o, hide_get a (hr p hp), c⟩
  obtain ⟨oL, es, ep, e, r⟩ := S.F.ns
  refine ⟨⟨⟨oL, es, ep, S'.F.keep _ _ (hide_get e hL), r⟩, fun a o q => S'.F.keep _ _ (h0 a o q), S.F.above⟩, ⟨fun p hp => ?_, ?_⟩, S.len, S.low, S'.g.trans S.g, S'.d.trans S.d, S'.o.trans S.o⟩
  · rcases List.mem_append.mp hp with hp | hp
    · obtain ⟨x, x1, x2, x3⟩ := S'.N.1 p hp
      refine ⟨x, fun q => ?_, ?_, x3⟩
      · rw [q, hide_get e hL] at x2; cases x2
      · cases q : h₀.get? p.1 with
        | none => rfl
        | some o => rw [h0 _ _ q] at x2; cases x2
    · obtain ⟨o, a, c⟩ := hrl p hp
      exact ⟨⟨o, S'.F.keep _ _ a, c⟩, (S.N.1 p (hrest p hp)).2⟩
  · rw [List.map_append, List.nodup_append]
    refine ⟨S'.N.2, hnd.2.1, fun x hx y hy q => ?_⟩
    obtain ⟨p, hp, rfl⟩ := List.mem_map.mp hx
    obtain ⟨p', hp', rfl⟩ := List.mem_map.mp hy
    obtain ⟨o, a, _⟩ := hrl p' hp'
    have := (S'.N.1 p hp).2.2.1
    rw [q, a] at this; cases this

theorem Wd.hide (W : Wd w h₀) (S : St h₀ L ns vs l b s) {lm : List (Addr × Assn)} (hlm : ∀ p ∈ lm, p ∈ l) : Wd w (hideAll s.heap (lm.map (·.1))) :=
  W.keep fun a o e => hide_get (S.F.keep a o e) fun h => by
    obtain ⟨p, hp, q⟩ := List.mem_map.mp h
    have := (S.N.1 p (hlm p hp)).2.2.1
    rw [q, e] at this; cases this
end

section
variable {w : World} {A : Around} {E : Value → Shared → Prop} {h₀ : Heap} {L : Addr} {ns : List Str} {vs : List (Option Value)} {l : List (Addr × Assn)} {b s : Shared} {f : Addr} {fo : Obj} {fd : FuncData} {body : List Stmt} {k : Nat}

/-- the frame of a call, behind the binder -/
theorem enter_core (S : St h₀ L ns vs l b s) (W : Wd w h₀) (ns' : List Str) (ws : List Value) (z : Nat) (vs' : List (Option Value)) (hvs : vs' = ws.map some ++ List.replicate z none) (lm rest : List (Addr × Assn)) (hlm : ∀ p ∈ lm, p ∈ l) (hrest : ∀ p ∈ rest, p ∈ l) (hnd : ((lm ++ rest).map (·.1)).Nodup)
    (r : Rm A (k + 1)) (hev : evOk fd.scope ns' = true) (hnc : noCell fd.scope = true) (hgl : fd.globals = mainGlobals) (hbl : fd.builtins = builtinsNs) (hlen : ns'.length = ws.length + z) {binds : List (Str × Value)} (hb : binds = zipB ns' vs') {R : Result → Shared → Prop}
    (h : ∀ L' s', St (hideAll s.heap (lm.map (·.1))) L' ns' vs' lm s s' → Ev (callEnv fd L' f) L' ns' → Rm (A.deeper (callEnv fd L' f)) k →
      (∀ vs'' l' s'', St (hideAll s.heap (lm.map (·.1))) L' ns' vs'' l' s s'' → St h₀ L ns vs (l' ++ rest) b s'') →
      wpAny (model PySem.Challenge.pw_ab5042_01 w) (A.deeper (callEnv fd L' f)) (execs body (callEnv fd L' f)) (fun fl s'' => R (.ok (.ret (retOf fl))) s'') (fun _ _ => False) s') :
    wpAny (model PySem.Challenge.pw_ab5042_01 w) A.in1 (newFunctionEnv fd.scope fd.globals fd.closure binds (fd.qualname ++ ".<locals>.") (some f) fd.code none fd.builtins)
        (fun env s₂ => s₂.heap.NoLimit ∧ codeAny (model PySem.Challenge.pw_ab5042_01 w) A (.func body env) R s₂) (fun e s' => R (.error e) s') s := by
  subst hvs
  subst hb
  have hev' := hev
  simp only [evOk, Bool.and_eq_true, List.all_eq_true, beq_iff_eq, Bool.not_eq_true', decide_eq_true_eq] at hev'
  obtain ⟨⟨⟨⟨h1, h4⟩, h5⟩, h2⟩, h3⟩ := hev'
  have hnl : (s.heap).NoLimit := W.nolimit.keeps S.F.keep
  refine wpAny_newFunctionEnv ?_ ?_ (fun h' hns hsb => ?_) h1
  · intro x hx
    simp only [noCell, List.all_eq_true, Bool.not_eq_true', beq_eq_false_iff_ne] at hnc
    exact hnc x hx
  · intro x hx
    obtain ⟨i, a, _⟩ := zipB_mem (x := x.1) (v := x.2) hx
    exact (h2 x.1 (List.mem_of_getElem? a)).1
  · refine ⟨hnl.fresh _ hsb, codeAny_func ?_⟩
    have hk : ∀ a o, s.heap.get? a = some o → h'.get? a = some o := fun a o e => hsb.extBut a o (Nat.ne_of_lt (Heap.lt_size e)) (Heap.get?_push_of_some _ e)
    have S' : St (hideAll s.heap (lm.map (·.1))) s.heap.objs.size ns' (ws.map some ++ List.replicate z none) lm s { s with heap := h', toks := s.toks + (zipB ns' (ws.map some ++ List.replicate z none)).length } := by
      refine ⟨⟨?_, fun a o e => hk a o (of_hideAll _ e), Nat.le_of_eq (hideAll_size _ _)⟩, ⟨fun p hp => ?_, ?_⟩, by simp [hlen], (W.hide S hlm).low, rfl, rfl, rfl⟩
      · rw [← zipB_fm h3 hlen]; exact hns
      · obtain ⟨⟨o, a, c⟩, _, _, lo⟩ := S.N.1 p (hlm p hp)
        exact ⟨⟨o, hk _ _ a, c⟩, Nat.ne_of_lt (Heap.lt_size a), hideAll_none _ (List.mem_map_of_mem hp), lo⟩
      · rw [List.map_append, List.nodup_append] at hnd
        exact hnd.1
    refine wpAny_mono (h _ _ S' (ev_of hev rfl rfl hgl hbl) (r.deeper _) (fun vs'' l' s'' x => S.join hlm hrest hnd x)) (fun fl s' x => ?_) (fun _ _ x => x.elim)
    cases fl <;> exact x

/-- A CALL OF A DEF (no cells of its own); lm: lent, rest: kept back -/
theorem callf (S : St h₀ L ns vs l b s) (W : Wd w h₀) (ns' : List Str) (ws : List Value) (z : Nat) (vs' : List (Option Value)) (hvs : vs' = ws.map some ++ List.replicate z none) (lm rest : List (Addr × Assn)) (hlm : ∀ p ∈ lm, p ∈ l) (hrest : ∀ p ∈ rest, p ∈ l) (hnd : ((lm ++ rest).map (·.1)).Nodup)
    (r : Rm A (k + 1)) (ho : (hd.heap_39 w.params).lookup f = some fo) (hdat : fo.data = .func fd) (hbody : fd.body = .stmts body) (hcd : codeIn (hd.heap_39 w.params) fd.code fd.qualname = true)
    (hev : evOk fd.scope ns' = true) (hnc : noCell fd.scope = true) (hgl : fd.globals = mainGlobals) (hbl : fd.builtins = builtinsNs) (hlen : ns'.length = ws.length + z) {args : Args} {R : Result → Shared → Prop}
    (hbind : BindsTo s fd args (zipB ns' vs'))
    (h : ∀ L' s', St (hideAll s.heap (lm.map (·.1))) L' ns' vs' lm s s' → Ev (callEnv fd L' f) L' ns' → Rm (A.deeper (callEnv fd L' f)) k →
      (∀ vs'' l' s'', St (hideAll s.heap (lm.map (·.1))) L' ns' vs'' l' s s'' → St h₀ L ns vs (l' ++ rest) b s'') →
      wpAny (model PySem.Challenge.pw_ab5042_01 w) (A.deeper (callEnv fd L' f)) (execs body (callEnv fd L' f)) (fun fl s'' => R (.ok (.ret (retOf fl))) s'') (fun _ _ => False) s') :
    codeAny (model PySem.Challenge.pw_ab5042_01 w) A (.call (.ref f) args) R s := by
  have hev' := hev
  simp only [evOk, Bool.and_eq_true, beq_iff_eq, Bool.not_eq_true'] at hev'
  have hX := W.X.keeps S.F.keep
  refine codeAny_call_function r.room (hX _ _ ho) hdat hev'.1.1.1.2 hev'.1.1.2 hbody (codeRec_of hX hcd) (hbind _ _ _ _ ?_)
  exact enter_core S W ns' ws z vs' hvs lm rest hlm hrest hnd r hev hnc hgl hbl hlen rfl h

theorem wp_peekA {α : Type} {K : Frag} {M : Model} {A : Around} {E : Value → Shared → Prop} {Q : α → Shared → Prop} {s : Shared} {o : Obj} (X : K.In s.heap) :
    ∀ (t : Sem α) (g : Addr → Sem α), peekA K ⟨M.prog, M.w.params⟩ t = some (o, g) → wpAny M A (g s.heap.objs.size) Q E { s with heap := s.heap.push o } → wpAny M A t Q E s := by
  intro t
  induction t with
  | rule _ k ih => intro g e q Γ p hΓ; exact ih () g e q Γ p hΓ
  | point _ k ih => intro g e q Γ p hΓ; exact ih () g e q Γ p hΓ
  | ask k ih => intro g e q Γ p hΓ; exact ih _ g e q Γ p hΓ
  | load a _ k ih =>
    intro g e q Γ p hΓ
    simp only [peekA] at e
    split at e
    · rename_i ob ho; exact ⟨ob, X _ _ ho, ih ob g e q Γ p hΓ⟩
    · cases e
  | alloc ob k _ =>
    intro g e q
    have e : some (ob, k) = some (o, g) := e
    obtain ⟨e1, e2⟩ := Prod.mk.inj (Option.some.inj e)
    subst e1
    subst e2
    show wpAny M A (alloc ob >>= k) Q E s
    exact wpAny_bind (wpAny_alloc q)
  | _ => intro g e; cases e

theorem kwEs_flds {P : Params} : ∀ (ex : List (Str × Value)) (t : Tok), FldsAre P ex (kwEs P t ex)
  | [], _ => .nil
  | x :: r, t => .cons (kwEs_flds r (t + 1))

/-- A CALL OF A DEF with **attr: D is the new dict of what was given by name -/
theorem callk (S : St h₀ L ns vs l b s) (W : Wd w h₀) (ex : List (Str × Value)) (hex : (ex.map (·.1)).Nodup) (ns' : List Str) (ws : Addr → List Value) (z : Nat) (vs' : Addr → List (Option Value)) (hvs : ∀ D, vs' D = (ws D).map some ++ List.replicate z none) (lm rest : List (Addr × Assn)) (hlm : ∀ p ∈ lm, p ∈ l) (hrest : ∀ p ∈ rest, p ∈ l) (hnd : ((lm ++ rest).map (·.1)).Nodup)
    (r : Rm A (k + 1)) (ho : (hd.heap_39 w.params).lookup f = some fo) (hdat : fo.data = .func fd) (hbody : fd.body = .stmts body) (hcd : codeIn (hd.heap_39 w.params) fd.code fd.qualname = true)
    (hev : evOk fd.scope ns' = true) (hnc : noCell fd.scope = true) (hgl : fd.globals = mainGlobals) (hbl : fd.builtins = builtinsNs) (hlen : ∀ D, ns'.length = (ws D).length + z) {args : Args} {R : Result → Shared → Prop} {g₁ : Addr → Sem (List (Str × Value))}
    (hp : peekA (hd.heap_39 w.params) ⟨PySem.Challenge.pw_ab5042_01, w.params⟩ (bindArgs fd args) = some (dictOf [] 0, g₁))
    (hg : ∀ D, g₁ D = (forIn ex PUnit.unit (fun x _ => (nsSet D x.1 x.2 >>= fun _ => pure (ForInStep.yield PUnit.unit))) >>= fun _ => pure (zipB ns' (vs' D))))
    (h : ∀ D L' s₁ s', St (hideAll s₁.heap (D :: lm.map (·.1))) L' ns' (vs' D) ((D, AFld w ex) :: lm) s₁ s' → Ev (callEnv fd L' f) L' ns' → Rm (A.deeper (callEnv fd L' f)) k → St h₀ L ns vs ((D, AFld w ex) :: l) b s₁ → Wd w (hideAll s₁.heap (D :: lm.map (·.1))) →
      (∀ vs'' l' s'', St (hideAll s₁.heap (D :: lm.map (·.1))) L' ns' vs'' l' s₁ s'' → St h₀ L ns vs (l' ++ rest) b s'') →
      wpAny (model PySem.Challenge.pw_ab5042_01 w) (A.deeper (callEnv fd L' f)) (execs body (callEnv fd L' f)) (fun fl s'' => R (.ok (.ret (retOf fl))) s'') (fun _ _ => False) s') :
    codeAny (model PySem.Challenge.pw_ab5042_01 w) A (.call (.ref f) args) R s := by
  have hev' := hev
  simp only [evOk, Bool.and_eq_true, beq_iff_eq, Bool.not_eq_true'] at hev'
  have hX := W.X.keeps S.F.keep
  refine codeAny_call_function r.room (hX _ _ ho) hdat hev'.1.1.1.2 hev'.1.1.2 hbody (codeRec_of hX hcd) ?_
  refine wp_peekA (M := model PySem.Challenge.pw_ab5042_01 w) hX _ g₁ hp ?_
  rw [hg]
  have S1 : St h₀ L ns vs ((s.heap.objs.size, AFld w []) :: l) b { s with heap := s.heap.push (dictOf [] 0) } := S.alloc ⟨[], 0, rfl, .nil⟩ rfl
  obtain ⟨pre, post, o, hP, N, h1, h2, back⟩ := S1.news (i := 0) rfl
  have hpre : pre = [] ∨ pre ≠ [] := by cases pre <;> simp
  have hD : ({ s with heap := s.heap.push (dictOf [] 0) } : Shared).heap.get? s.heap.objs.size = some (dictOf [] 0) := Heap.get?_push_size _ rfl
  have ho' : o = dictOf [] 0 := Option.some.inj ((N (s.heap.objs.size, o) (by simp)).1.symm.trans hD)
  subst ho'
  have N' : News h₀ L ({ s with heap := s.heap.push (dictOf [] 0) } : Shared).heap ((s.heap.objs.size, dictOf [] 0) :: (pre ++ post)) := fun p hp => N p (by
    rcases List.mem_cons.mp hp with rfl | hp
    · simp
    · rcases List.mem_append.mp hp with hp | hp
      · exact List.mem_append_left _ hp
      · exact List.mem_append_right _ (List.mem_cons_of_mem _ hp))
  refine wpAny_bind (kp_fill (prog := PySem.Challenge.pw_ab5042_01) (w := w) ex { s with heap := s.heap.push (dictOf [] 0) } [] 0 S1.F N' (fun p hp => ?_) (fun _ he => nomatch he) (fun _ he => nomatch he) hex fun h' F' N'' => wpAny_pure ?_)
  · rcases List.mem_append.mp hp with hp | hp
    · exact h1 p hp
    · exact h2 p hp
  · have S2 : St h₀ L ns vs ((s.heap.objs.size, AFld w ex) :: l) b { s with heap := h', toks := s.toks + ex.length } := by
      refine back (s' := { s with heap := h', toks := s.toks + ex.length }) (dictOf ([] ++ kwEs w.params s.toks ex) (0 + ex.length)) (AFld w ex) ⟨_, _, rfl, kwEs_flds ex s.toks⟩ F' (fun p hp => N'' p ?_) rfl rfl rfl
      rcases List.mem_append.mp hp with hp | hp
      · exact List.mem_cons_of_mem _ (List.mem_append_left _ hp)
      · rcases List.mem_cons.mp hp with rfl | hp
        · exact List.mem_cons_self
        · exact List.mem_cons_of_mem _ (List.mem_append_right _ hp)
    have hDn : s.heap.objs.size ∉ l.map (·.1) := (List.nodup_cons.mp S2.N.2).1
    have hlm' : ∀ p ∈ (s.heap.objs.size, AFld w ex) :: lm, p ∈ (s.heap.objs.size, AFld w ex) :: l := fun p hp => by
      rcases List.mem_cons.mp hp with rfl | hp
      · exact List.mem_cons_self
      · exact List.mem_cons_of_mem _ (hlm p hp)
    refine enter_core S2 W ns' (ws _) z (vs' s.heap.objs.size) (hvs _) ((s.heap.objs.size, AFld w ex) :: lm) rest hlm' (fun p hp => List.mem_cons_of_mem _ (hrest p hp)) ?_ r hev hnc hgl hbl (hlen _) rfl ?_
    · rw [List.cons_append, List.map_cons, List.nodup_cons]
      refine ⟨fun hm => hDn ?_, hnd⟩
      obtain ⟨p, hp, e⟩ := List.mem_map.mp hm
      have e' : p.1 = s.heap.objs.size := e
      rw [← e']
      rcases List.mem_append.mp hp with hp | hp
      · exact List.mem_map_of_mem (hlm p hp)
      · exact List.mem_map_of_mem (hrest p hp)
    · intro L' s' S' e' r' bk
      exact h _ L' _ s' S' e' r' S2 (W.hide S2 hlm') bk
end
end Mine
end

section
set_option maxRecDepth 100000
set_option maxHeartbeats 400000
set_option linter.unusedVariables false
set_option pp.deepTerms false
set_option pp.deepTerms.threshold 4
namespace Mine
open PySem PySem.W PySem.Calls PyProof.Rows

/-- all that stood before a call is as it was -/
structure Kept (s s' : Shared) : Prop where
  k : ∀ a o, s.heap.get? a = some o → s'.heap.get? a = some o
  g : s'.gens = s.gens
  d : s'.drawn = s.drawn
  o : s'.os = s.os
theorem St.kept {h₀ : Heap} {L : Addr} {ns : List Str} {vs : List (Option Value)} {l : List (Addr × Assn)} {b s : Shared} (S : St h₀ L ns vs l b s) (h : h₀ = b.heap) : Kept b s := ⟨fun a o e => S.F.keep a o (h ▸ e), S.g, S.d, S.o⟩

theorem gcd_turn (a b : Int) (ha : 0 ≤ a) (hb : 0 < b) : Int.gcd b (a % b) = Int.gcd a b := by
  obtain ⟨m, rfl⟩ := Int.eq_ofNat_of_zero_le ha
  obtain ⟨n, rfl⟩ := Int.eq_ofNat_of_zero_le (Int.le_of_lt hb)
  rw [← Int.natCast_emod, Int.gcd_natCast_natCast, Int.gcd_natCast_natCast, Nat.gcd_comm m n, Nat.gcd_comm n (m % n), ← Nat.gcd_rec]

theorem common_spec {w : World} {A : Around} {s : Shared} {R : Result → Shared → Prop} {x y : Int} {t u : Tok} (W : Wd w s.heap) (r : Rm A 3) (hx : 0 ≤ x) (hy : 0 ≤ y)
    (k : ∀ t' s', Kept s s' → R (.ok (.ret (.int (Int.gcd x y) t'))) s') :
    codeAny (model PySem.Challenge.pw_ab5042_01 w) A (.call (.ref 1054) ⟨[.int x t, .int y u], []⟩) R s := by
  refine' call_fn0 ["one", "other"] [.int x t, .int y u] 0 [some (.int x t), some (.int y u)] rfl W r ?k1 ?k2 ?k3 ?k4 ?k5 ?k6 ?k7 ?k8 rfl ?k9 ?_
  case k1 => k_is
  case k2 => exact rfl
  case k3 => exact rfl
  case k4 => k_is
  case k5 => decide +kernel
  case k6 => decide +kernel
  case k7 => exact rfl
  case k8 => exact rfl
  case k9 => exact BindsTo.of_eq rfl
  intro L s' S e r'
  with_reducible refine wpAny_execs_cons ?_
  with_reducible refine s_while (fun n vs l => ∃ a b ta tb, vs = [some (.int a ta), some (.int b tb)] ∧ l = [] ∧ 0 ≤ a ∧ 0 ≤ b ∧ Int.gcd a b = Int.gcd x y ∧ n = b.toNat) y.toNat S ⟨x, y, t, u, rfl, rfl, hx, hy, rfl, rfl⟩ ?_
  clear S
  rintro n vs l s ⟨a, b, ta, tb, rfl, rfl, ha, hb, hg, rfl⟩ S
  refine wpAny_isTrue_Compare1 ?_
  refine ld_i e S 1 rfl rfl ?_
  with_reducible refine s_ci S ?_
  intro t s S
  with_reducible refine gt_int ?_
  with_reducible refine wpAny_truthy_bool ?_
  split
  next h =>
    have h : 0 < b := of_decide_eq_true h
    with_reducible refine wpAny_execs_cons ?_
    refine Assign_Tuple_swapped ?_
    refine s_tuple2 ?_ rfl rfl
    refine ld_i e S 1 rfl rfl ?_
    with_reducible refine wpAny_BinOp ?_
    refine ld_i e S 0 rfl rfl ?_
    refine ld_i e S 1 rfl rfl ?_
    with_reducible refine s_mod S h ?_
    intro t s S
    with_reducible refine s_newTuple S rfl ?_
    intro p s S
    refine s_unpackItems S r'.hh (S.tup (i := 0) rfl) rfl ?_
    intro s S
    have S := S.tl
    refine assignInOrder_cons ?_
    refine wpAny_bindName ?_
    refine st_i e S 1 rfl ?_
    intro s S
    refine assignInOrder_cons ?_
    refine wpAny_bindName ?_
    refine st_i e S 0 rfl ?_
    intro s S
    refine assignInOrder_nil ?_
    refine wpAny_execs_nil ?_
    have h3 := Int.emod_lt_of_pos a h
    have h4 := Int.emod_nonneg a (Int.ne_of_gt h)
    refine ⟨(a % b).toNat, _, _, by omega, ⟨b, a % b, _, _, rfl, rfl, hb, h4, ?_, rfl⟩, S⟩
    rw [← hg]
    exact gcd_turn a b ha h
  next h =>
    have h : ¬ (0 < b) := of_decide_eq_false (by simpa using h)
    have hb0 : b = 0 := by omega
    subst hb0
    refine wpAny_execs_cons (wpAny_Return_some (ld_i e S 0 rfl rfl ?_))
    have hg' : (Int.gcd x y : Int) = a := by rw [← hg]; simp; omega
    have := k ta s (S.kept rfl)
    rw [hg'] at this
    exact this
end Mine
end

section
set_option maxRecDepth 100000
set_option maxHeartbeats 400000
set_option linter.unusedVariables false
set_option pp.deepTerms false
set_option pp.deepTerms.threshold 4
namespace Mine
open PySem PySem.W PySem.Calls PyProof.Rows

theorem at_spec {w : World} {A : Around} {s : Shared} {R : Result → Shared → Prop} {a : Addr} {xs : List Value} {ms : List Int} {i o : Int} {ti to : Tok} (W : Wd w s.heap) (r : Rm A 3) (hl : s.heap.IsList a xs.toArray) (hi : IntsAre xs ms)
    (h0 : 0 ≤ i) (h1 : i < 100) (hz : ms.length ≤ 1000)
    (k : ∀ t' s', Kept s s' → R (.ok (.ret (.int (ms.getD i.toNat o) t'))) s') :
    codeAny (model PySem.Challenge.pw_ab5042_01 w) A (.call (.ref 1047) ⟨[.ref a, .int i ti, .int o to], []⟩) R s := by
  refine' call_fn0 ["script", "k", "other"] [.ref a, .int i ti, .int o to] 0 [some (.ref a), some (.int i ti), some (.int o to)] rfl W r ?k1 ?k2 ?k3 ?k4 ?k5 ?k6 ?k7 ?k8 rfl ?k9 ?_
  case k1 => k_is
  case k2 => exact rfl
  case k3 => exact rfl
  case k4 => k_is
  case k5 => decide +kernel
  case k6 => decide +kernel
  case k7 => exact rfl
  case k8 => exact rfl
  case k9 => exact BindsTo.of_eq rfl
  intro L s S e r'
  have hlen : xs.length = ms.length := hi.length
  have hl' : s.heap.IsList a xs.toArray := hl.at fun o e => S.F.keep a o e
  with_reducible refine wpAny_execs_cons ?_
  with_reducible refine wpAny_Return_some ?_
  with_reducible refine wpAny_IfExp ?_
  refine wpAny_isTrue_Compare1 ?_
  refine ld_i e S 1 rfl rfl ?_
  refine Call_ ?_
  refine ld_b e W S (.builtin "len") (by k_is) rfl (by boot_by_name) (by decide) ?_
  refine cw_b1 ?_
  refine ld_i e S 0 rfl rfl ?_
  refine s_len_list S (hl.at fun o e => S.F.keep a o e) (by omega) ?_
  clear S
  intro t s S
  with_reducible refine lt_int ?_
  with_reducible refine wpAny_truthy_bool ?_
  rw [hlen]
  split
  next h =>
    have h : i < (ms.length : Int) := of_decide_eq_true h
    with_reducible refine Subscript_ ?_
    refine ld_i e S 0 rfl rfl ?_
    refine ld_i e S 1 rfl rfl ?_
    obtain ⟨t', hx⟩ := hi.get i.toNat (ms[i.toNat]'(by omega)) (by simp)
    refine s_sub_list (hl.at fun o e => S.F.keep a o e) h0 (by omega) hx ?_
    have := k t' _ (S.kept rfl)
    rw [List.getD_eq_getElem?_getD, List.getElem?_eq_getElem (by omega)] at this
    exact this
  next h =>
    have h : ¬ (i < (ms.length : Int)) := of_decide_eq_false (by simpa using h)
    refine ld_i e S 2 rfl rfl ?_
    have := k to _ (S.kept rfl)
    rw [List.getD_eq_getElem?_getD, List.getElem?_eq_none (by omega)] at this
    exact this
end Mine
end

section
set_option maxRecDepth 100000
set_option maxHeartbeats 400000
set_option linter.unusedVariables false
set_option pp.deepTerms false
set_option pp.deepTerms.threshold 4
namespace Mine
open PySem PySem.W PySem.Calls PyProof.Rows

theorem Rm.make {A : Around} {k : Nat} (r : Rm A (k + 1)) (C : Addr) (rest : List Value) (kw : List (Str × Value)) : Rm (A.under (.builtin "type.__call__" ⟨.ref C :: rest, kw⟩)) k := by
  have h1 : (Code.builtin "type.__call__" ⟨.ref C :: rest, kw⟩).weight = 1 := rfl
  have h2 : (Code.builtin "type.__call__" ⟨.ref C :: rest, kw⟩).cUnits = 1 := rfl
  refine ⟨r.hh, ?_, ?_⟩
  · have := r.dep; show A.depth + (Code.builtin "type.__call__" ⟨.ref C :: rest, kw⟩).weight + k ≤ 900; rw [h1]; omega
  · have := r.uni; show A.units + (Code.builtin "type.__call__" ⟨.ref C :: rest, kw⟩).cUnits + 20 * k ≤ 9000; rw [h2]; omega

/-- the objects of a new digraph: the object, its dict, graph, _node, _adj (= _succ), _pred -/
def newG (w : World) (x dx ag an aa ap : Addr) : List (Addr × Assn) :=
  [(x, AObj (instObj 1030 dx)), (dx, AFld w [("graph", .ref ag), ("_node", .ref an), ("_adj", .ref aa), ("_pred", .ref ap), ("_succ", .ref aa)]), (an, AEmpty), (aa, AEmpty), (ap, AEmpty)]

theorem digraph_call {w : World} {A : Around} {E : Value → Shared → Prop} {h₀ : Heap} {L : Addr} {ns : List Str} {vs : List (Option Value)} {l : List (Addr × Assn)} {b s : Shared} {Q : Value → Shared → Prop}
    (S : St h₀ L ns vs l b s) (W : Wd w h₀) (r : Rm A 5) (k : ∀ x dx ag an aa ap s', St h₀ L ns vs (newG w x dx ag an aa ap ++ l) b s' → Q (.ref x) s') :
    wpAny (model PySem.Challenge.pw_ab5042_01 w) A (call (.ref 1030) [] []) Q E s := by
  refine wpAny_call ?_
  obtain ⟨hh, g, d, t, o⟩ := s
  have X := (W.X.keeps S.F.keep)
  refine make_core (init := .ref 877) (makes_of X (by k_is)) (looks_findIn X (by k_is)) (fun self => bind_fn X self (by k_is)) (.inl rfl) ?_
  have S1 := (S.alloc (P := AFld w []) (o := emptyDict) ⟨[], 0, rfl, .nil⟩ rfl).alloc (P := AObj (instObj 1030 hh.objs.size)) (o := instObj 1030 hh.objs.size) rfl rfl
  simp only [Heap.size_push] at S1
  generalize hx : hh.objs.size + 1 = x at S1 ⊢
  generalize hdx : hh.objs.size = dx at S1 ⊢
  generalize hs : (⟨(hh.push emptyDict).push (instObj 1030 dx), g, d, t, o⟩ : Shared) = s1 at S1 ⊢
  clear hs hx hdx S
  have hn := S1.N.2
  have r1 := r.make 1030 [] []
  refine' callk S1 W [] List.nodup_nil ["self", "incoming_graph_data", "attr"] (fun D => [.ref x, .none, .ref D]) 0 (fun D => [some (.ref x), some .none, some (.ref D)]) (fun D => rfl) [(x, AObj (instObj 1030 dx)), (dx, AFld w [])] l (by simp) (by intro p hp; simp [hp]) hn r1 ?k1 ?k2 ?k3 ?k4 ?k5 ?k6 ?k7 ?k8 (fun D => rfl) ?k9 ?k10 ?_
  case k1 => k_is
  case k2 => exact rfl
  case k3 => exact rfl
  case k4 => k_is
  case k5 => decide +kernel
  case k6 => decide +kernel
  case k7 => exact rfl
  case k8 => exact rfl
  case k9 => exact rfl
  case k10 => exact fun D => rfl
  clear S1
  intro D L' s1' s S e r' S1 W1 back
  have nx : D ≠ x := fun q => by
    have := (List.nodup_cons.mp S1.N.2).1
    exact this (by simp [q])
  refine wpAny_execs_cons ?_
  refine plainObj_wpAny_Assign_Attribute ?_
  refine MethodCall_ ?_
  refine ld_i e S 0 rfl rfl ?_
  refine s_factory S W1.X (S.inst 1 2 rfl rfl) (by k_is) (by k_is) (by k_is) (by decide) rfl ?_
  clear S; intro s S
  refine cw_t0 ?_
  refine s_dict0 S ?_
  clear S; intro ag s S
  refine ld_i e S 0 rfl rfl ?_
  refine s_setattr S W1.X 3 rfl (S.obj (i := 2) rfl) (by k_is) (by k_is) (by k_is) (by k_is) rfl ?_
  clear S; intro s S
  replace S : St _ L' _ _ [(ag, AEmpty), (D, AFld w []), (x, AObj (instObj 1030 dx)), (dx, AFld w [("graph", .ref ag)])] s1' s := S
  refine wpAny_execs_cons ?_
  refine plainObj_wpAny_Assign_Attribute ?_
  refine MethodCall_ ?_
  refine ld_i e S 0 rfl rfl ?_
  refine s_factory S W1.X (S.inst 2 3 rfl rfl) (by k_is) (by k_is) (by k_is) (by decide) rfl ?_
  clear S; intro s S
  refine cw_t0 ?_
  refine s_dict0 S ?_
  clear S; intro an s S
  refine ld_i e S 0 rfl rfl ?_
  refine s_setattr S W1.X 4 rfl (S.obj (i := 3) rfl) (by k_is) (by k_is) (by k_is) (by k_is) rfl ?_
  clear S; intro s S
  replace S : St _ L' _ _ [(an, AEmpty), (ag, AEmpty), (D, AFld w []), (x, AObj (instObj 1030 dx)), (dx, AFld w [("graph", .ref ag), ("_node", .ref an)])] s1' s := S
  refine wpAny_execs_cons ?_
  refine plainObj_wpAny_Assign_Attribute ?_
  refine MethodCall_ ?_
  refine ld_i e S 0 rfl rfl ?_
  refine s_factory S W1.X (S.inst 3 4 rfl rfl) (by k_is) (by k_is) (by k_is) (by decide) rfl ?_
  clear S; intro s S
  refine cw_t0 ?_
  refine s_dict0 S ?_
  clear S; intro aa s S
  refine ld_i e S 0 rfl rfl ?_
  refine s_setattr S W1.X 5 rfl (S.obj (i := 4) rfl) (by k_is) (by k_is) (by k_is) (by k_is) rfl ?_
  clear S; intro s S
  replace S : St _ L' _ _ [(aa, AEmpty), (an, AEmpty), (ag, AEmpty), (D, AFld w []), (x, AObj (instObj 1030 dx)), (dx, AFld w [("graph", .ref ag), ("_node", .ref an), ("_adj", .ref aa)])] s1' s := S
  refine wpAny_execs_cons ?_
  refine plainObj_wpAny_Assign_Attribute ?_
  refine MethodCall_ ?_
  refine ld_i e S 0 rfl rfl ?_
  refine s_factory S W1.X (S.inst 4 5 rfl rfl) (by k_is) (by k_is) (by k_is) (by decide) rfl ?_
  clear S; intro s S
  refine cw_t0 ?_
  refine s_dict0 S ?_
  clear S; intro ap s S
  refine ld_i e S 0 rfl rfl ?_
  refine s_setattr S W1.X 6 rfl (S.obj (i := 5) rfl) (by k_is) (by k_is) (by k_is) (by k_is) rfl ?_
  clear S; intro s S
  replace S : St _ L' _ _ [(ap, AEmpty), (aa, AEmpty), (an, AEmpty), (ag, AEmpty), (D, AFld w []), (x, AObj (instObj 1030 dx)), (dx, AFld w [("graph", .ref ag), ("_node", .ref an), ("_adj", .ref aa), ("_pred", .ref ap)])] s1' s := S
  -- self._succ = self._adj
  refine wpAny_execs_cons ?_
  refine plainObj_wpAny_Assign_Attribute ?_
  refine Attribute_any_ ?_
  refine ld_i e S 0 rfl rfl ?_
  refine s_attr none (.ref aa) S W1.X (S.inst 5 6 rfl rfl) (by k_is) (by k_is) (by k_is) rfl rfl rfl ?_
  clear S; intro s S
  refine ld_i e S 0 rfl rfl ?_
  refine s_setattr S W1.X 6 rfl (S.obj (i := 5) rfl) (by k_is) (by k_is) (by k_is) (by k_is) rfl ?_
  clear S; intro s S
  replace S : St _ L' _ _ [(ap, AEmpty), (aa, AEmpty), (an, AEmpty), (ag, AEmpty), (D, AFld w []), (x, AObj (instObj 1030 dx)), (dx, AFld w [("graph", .ref ag), ("_node", .ref an), ("_adj", .ref aa), ("_pred", .ref ap), ("_succ", .ref aa)])] s1' s := S
  -- if incoming_graph_data is not None
  refine wpAny_execs_cons ?_
  with_reducible refine wpAny_If ?_
  refine wpAny_isTrue_Compare1 ?_
  refine ld_i e S 1 rfl rfl ?_
  refine wpAny_Constant_none ?_
  refine wpAny_isNot_self rfl ?_
  with_reducible refine wpAny_truthy_bool ?_
  rw [if_neg (by decide)]
  refine wpAny_execs_nil ?_
  -- self.graph.update(attr)
  refine wpAny_execs_cons ?_
  refine wpAny_Expr ?_
  refine MethodCall_ ?_
  refine Attribute_any_ ?_
  refine ld_i e S 0 rfl rfl ?_
  refine s_attr none (.ref ag) S W1.X (S.inst 5 6 rfl rfl) (by k_is) (by k_is) (by k_is) rfl rfl rfl ?_
  clear S; intro s S
  replace S := S.mono (i := 3) rfl (empty_dict (strKind PySem.Challenge.pw_ab5042_01 w))
  replace S := S.mono (i := 4) rfl (fld_dict PySem.Challenge.pw_ab5042_01 List.nodup_nil)
  refine s_dmeth PySem.F.slot_dict_update PySem.F.type_dict_update (S.dct (i := 3) rfl) ?_
  refine cw_m1 ?_
  refine ld_i e S 2 rfl rfl ?_
  refine s_dupdate S 3 rfl (S.ne 3 4 rfl rfl rfl) (S.dct (i := 4) rfl) (S.lo (i := 4) rfl) (by decide) ?_
  clear S; intro s S
  refine wpAny_execs_nil ?_
  refine ⟨rfl, k x dx ag an aa ap s ?_⟩
  have S := back _ _ _ S
  exact S.pick [5, 6, 2, 1, 0] rfl
end Mine
end

section
set_option maxRecDepth 100000
set_option maxHeartbeats 400000
set_option linter.unusedVariables false
namespace Mine
open PySem PySem.W PySem.Calls PyProof.Rows

/-- a fringe entry's key -/
abbrev K3 := Int × Int × Int
def lt3 (x y : K3) : Bool := if x.1 == y.1 then (if x.2.1 == y.2.1 then decide (x.2.2 < y.2.2) else decide (x.2.1 < y.2.1)) else decide (x.1 < y.1)
def AK (k : K3) : Assn := fun o => ∃ t1 t2 t3, ATup [.int k.1 t1, .int k.2.1 t2, .int k.2.2 t3] o
def IsK (h : Heap) (a : Addr) (k : K3) : Prop := ∃ o, h.get? a = some o ∧ AK k o

section
variable {prog : Program} {w : World} {A : Around} {E : Value → Shared → Prop} {s : Shared}

theorem rc_lt_int {a b : Int} {t u : Tok} {Q : Value → Shared → Prop} (h : Q (.bool (decide (a < b))) s) : wpAny (model prog w) A (richCompare .Lt (.int a t) (.int b u)) Q E s := wpAny_lt_int h
theorem tup_lt {a b : Addr} {x y : K3} (w' : World) : Meets (Builtin.«tuple.__lt__» ⟨[.ref a, .ref b], []⟩) (fun _ R s => IsK s.heap a x ∧ IsK s.heap b y ∧ R (.ok (.ret (.bool (lt3 x y)))) s) :=
  .of_wp fun prog w A R s h => by
    obtain ⟨hp, g, d, tk, os⟩ := s
    obtain ⟨⟨⟨c1, d1, D1, sl1⟩, ha, t1, t2, t3, hca, na, hda⟩, ⟨⟨c2, d2, D2, sl2⟩, hb, u1, u2, u3, hcb, nb, hdb⟩, h⟩ := h
    simp only at hca hda hcb hdb
    subst hca hda hcb hdb
    have f2 := AutoSeq1.sub_tuple_tuple
    have hT : (⟨hp, g, d, tk, os⟩ : Shared).TypeIs (.ref b) "tuple" := ⟨_, hb, rfl⟩
    wp_walk using wpAny_loadPart' ha, wpAny_loadPart' hb, wpAny_eqBool_int
    obtain ⟨x1, x2, x3⟩ := x
    obtain ⟨y1, y2, y3⟩ := y
    unfold lt3 at h
    by_cases e1 : (x1 == y1) = true
    · rw [if_pos e1] at h
      wp_walk using wpAny_eqBool_int
      by_cases e2 : (x2 == y2) = true
      · rw [if_pos e2] at h
        wp_walk using wpAny_eqBool_int
        by_cases e3 : (x3 == y3) = true
        · wp_walk
          have e3' : x3 = y3 := by simpa using e3
          subst e3'
          rw [show decide (x3 < x3) = false by simp] at h
          exact ⟨_, rfl, h⟩
        · wp_walk using rc_lt_int
          exact ⟨_, rfl, h⟩
      · rw [if_neg e2] at h
        wp_walk using rc_lt_int
        exact ⟨_, rfl, h⟩
    · rw [if_neg e1] at h
      wp_walk using rc_lt_int
      exact ⟨_, rfl, h⟩
end
end Mine
end

section
set_option maxRecDepth 100000
set_option maxHeartbeats 400000
set_option linter.unusedVariables false
namespace Mine
open PySem PySem.W PySem.Calls PyProof.Rows

abbrev Fri := List (Addr × K3)
def ky (xs : Fri) (i : Nat) : K3 := (xs[i]?.map (·.2)).getD (0, 0, 0)
def le3 (x y : K3) : Prop := lt3 y x = false
theorem le3_iff {x y : K3} : le3 x y ↔ x.1 < y.1 ∨ x.1 = y.1 ∧ (x.2.1 < y.2.1 ∨ x.2.1 = y.2.1 ∧ x.2.2 ≤ y.2.2) := by
  unfold le3 lt3
  split
  · rename_i h1
    have h1 := eq_of_beq h1
    split
    · rename_i h2
      have h2 := eq_of_beq h2
      simp only [decide_eq_false_iff_not]
      omega
    · rename_i h2
      have h2 : y.2.1 ≠ x.2.1 := fun e => h2 (by rw [e]; exact beq_self_eq_true _)
      simp only [decide_eq_false_iff_not]
      omega
  · rename_i h1
    have h1 : y.1 ≠ x.1 := fun e => h1 (by rw [e]; exact beq_self_eq_true _)
    simp only [decide_eq_false_iff_not]
    omega
theorem lt3_iff {x y : K3} : lt3 x y = true ↔ ¬ le3 y x := by unfold le3; simp
theorem le3_refl (x : K3) : le3 x x := le3_iff.mpr (by omega)
theorem le3_trans {x y z : K3} (h : le3 x y) (h' : le3 y z) : le3 x z := by
  rw [le3_iff] at *; omega
theorem le3_of_lt {x y : K3} (h : lt3 x y = true) : le3 x y := by
  rw [lt3_iff, le3_iff] at h; rw [le3_iff]; omega
theorem le3_fst {x y : K3} (h : le3 x y) : x.1 ≤ y.1 := by rw [le3_iff] at h; omega

def swp (xs : Fri) (i j : Nat) : Fri := match xs[i]?, xs[j]? with
  | some x, some y => (xs.set i y).set j x
  | _, _ => xs
theorem swp_eq {xs : Fri} {i j : Nat} (hi : i < xs.length) (hj : j < xs.length) : swp xs i j = (xs.set i xs[j]).set j xs[i] := by
  unfold swp; simp [hi, hj]
theorem swp_length (xs : Fri) (i j : Nat) : (swp xs i j).length = xs.length := by
  unfold swp; split <;> simp
theorem swp_perm {xs : Fri} {i j : Nat} (hi : i < xs.length) (hj : j < xs.length) : (swp xs i j).Perm xs := by
  rw [swp_eq hi hj]
  have := Array.swap_perm (xs := xs.toArray) (i := i) (j := j) (by simpa using hi) (by simpa using hj)
  have := Array.perm_iff_toList_perm.mp this
  simpa [Array.swap] using this
theorem ky_swp {xs : Fri} {i j : Nat} (hi : i < xs.length) (hj : j < xs.length) (k : Nat) : ky (swp xs i j) k = if k = j then ky xs i else if k = i then ky xs j else ky xs k := by
  rw [swp_eq hi hj]
  unfold ky
  simp only [List.getElem?_set, List.length_set]
  by_cases e : k = j
  · subst e; simp [hi, hj]
  · by_cases e' : k = i
    · subst e'; simp [hi, hj, e, Ne.symm e]
    · simp [e, e', Ne.symm e, Ne.symm e']

def Hp (xs : Fri) : Prop := ∀ j, 0 < j → j < xs.length → le3 (ky xs ((j - 1) / 2)) (ky xs j)
def UpI (xs : Fri) (pos : Nat) : Prop := ∀ j, 0 < j → j < xs.length → (j ≠ pos → le3 (ky xs ((j - 1) / 2)) (ky xs j)) ∧ ((j - 1) / 2 = pos → 0 < pos → le3 (ky xs ((pos - 1) / 2)) (ky xs j))
def DnI (xs : Fri) (pos : Nat) : Prop := ∀ j, 0 < j → j < xs.length → (j ≠ pos → (j - 1) / 2 ≠ pos → le3 (ky xs ((j - 1) / 2)) (ky xs j)) ∧ ((j - 1) / 2 = pos → 0 < pos → le3 (ky xs ((pos - 1) / 2)) (ky xs j))

theorem up_done {xs : Fri} {pos : Nat} (h : UpI xs pos) (h' : pos = 0 ∨ lt3 (ky xs pos) (ky xs ((pos - 1) / 2)) = false) : Hp xs := by
  intro j j0 jl
  by_cases e : j = pos
  · subst e
    rcases h' with h' | h'
    · omega
    · exact h'
  · exact (h j j0 jl).1 e
theorem up_step {xs : Fri} {pos : Nat} (h : UpI xs pos) (hp : 0 < pos) (hl : pos < xs.length) (hlt : lt3 (ky xs pos) (ky xs ((pos - 1) / 2)) = true) : UpI (swp xs ((pos - 1) / 2) pos) ((pos - 1) / 2) := by
  generalize hpe : (pos - 1) / 2 = p at *
  have hpp : p < pos := by omega
  have hpl : p < xs.length := by omega
  have hle := le3_of_lt hlt
  intro j j0 jl
  rw [swp_length] at jl
  simp only [ky_swp hpl hl]
  refine ⟨fun hj => ?_, fun hj hp0 => ?_⟩
  · by_cases e : j = pos
    · subst e
      rw [if_neg (by omega), if_pos hpe, if_pos rfl]; exact hle
    · rw [if_neg e, if_neg hj]
      by_cases e2 : (j - 1) / 2 = pos
      · rw [if_pos e2, ← hpe]
        exact (h j j0 jl).2 e2 hp
      · rw [if_neg e2]
        have h1 := (h j j0 jl).1 e
        by_cases e3 : (j - 1) / 2 = p
        · rw [if_pos e3]; rw [e3] at h1; exact le3_trans hle h1
        · rw [if_neg e3]; exact h1
  · have hq : (p - 1) / 2 < p := by omega
    rw [if_neg (by omega), if_neg (by omega)]
    have h2 := (h p hp0 hpl).1 (by omega)
    by_cases e : j = pos
    · rw [if_pos e]; exact h2
    · rw [if_neg e, if_neg (by omega)]
      have h1 := (h j j0 jl).1 e
      rw [hj] at h1
      exact le3_trans h2 h1

theorem dn_leaf {xs : Fri} {pos : Nat} (h : DnI xs pos) (hl : ¬ pos < xs.length / 2) : UpI xs pos := fun j j0 jl =>
  ⟨fun hj => (h j j0 jl).1 hj (by omega), fun e => absurd e (by omega)⟩
theorem dn_step {xs : Fri} {pos c : Nat} (h : DnI xs pos) (hc : (c - 1) / 2 = pos) (c0 : 0 < c) (hl : c < xs.length) (hm : ∀ j, 0 < j → j < xs.length → (j - 1) / 2 = pos → le3 (ky xs c) (ky xs j)) : DnI (swp xs c pos) c := by
  have hpl : pos < xs.length := by omega
  intro j j0 jl
  rw [swp_length] at jl
  simp only [ky_swp hl hpl]
  refine ⟨fun hj hpj => ?_, fun hj _ => ?_⟩
  · by_cases e : j = pos
    · subst e
      rw [if_pos rfl, if_neg (by omega), if_neg (by omega)]
      exact (h c c0 hl).2 hc j0
    · rw [if_neg e, if_neg hj]
      by_cases e2 : (j - 1) / 2 = pos
      · rw [if_pos e2]; exact hm j j0 jl e2
      · rw [if_neg e2, if_neg hpj]; exact (h j j0 jl).1 e e2
  · rw [if_pos hc, if_neg (by omega), if_neg (by omega)]
    have := (h j j0 jl).1 (by omega) (by omega)
    rw [hj] at this
    exact this

theorem ky_push_lt {xs : Fri} {x : Addr × K3} {i : Nat} (h : i < xs.length) : ky (xs ++ [x]) i = ky xs i := by
  unfold ky; rw [List.getElem?_append_left h]
theorem hp_push {xs : Fri} (x : Addr × K3) (h : Hp xs) : UpI (xs ++ [x]) xs.length := by
  intro j j0 jl
  rw [List.length_append, List.length_singleton] at jl
  refine ⟨fun hj => ?_, fun hj => by omega⟩
  rw [ky_push_lt (by omega), ky_push_lt (by omega)]
  exact h j j0 (by omega)
theorem hp_min {xs : Fri} (h : Hp xs) : ∀ j, j < xs.length → le3 (ky xs 0) (ky xs j) := by
  intro j
  induction j using Nat.strongRecOn with
  | _ j ih =>
    intro hj
    rcases Nat.eq_zero_or_pos j with rfl | j0
    · exact le3_refl _
    · exact le3_trans (ih _ (by omega) (by omega)) (h j j0 hj)
theorem hp_pop {xs : Fri} {last : Addr × K3} (h : Hp (xs ++ [last])) : DnI (xs.set 0 last) 0 := by
  intro j j0 jl
  rw [List.length_set] at jl
  refine ⟨fun hj hpj => ?_, fun _ e => absurd e (by omega)⟩
  have := h j j0 (by simp; omega)
  rw [ky_push_lt (by omega), ky_push_lt (by omega)] at this
  have k : ∀ i, i ≠ 0 → ky (xs.set 0 last) i = ky xs i := fun i hi => by unfold ky; rw [List.getElem?_set, if_neg (Ne.symm hi)]
  rw [k _ hj, k _ hpj]; exact this
end Mine
end

section
set_option maxRecDepth 100000
set_option maxHeartbeats 400000
set_option linter.unusedVariables false
namespace Mine
open PySem PySem.W PySem.Calls PyProof.Rows

/-- one object turned, the rest as it was -/
structure Turned (l : Addr) (s s' : Shared) : Prop where
  k : ∀ c o, c ≠ l → s.heap.get? c = some o → s'.heap.get? c = some o
  g : s'.gens = s.gens
  d : s'.drawn = s.drawn
  o : s'.os = s.os
theorem Turned.trans {l : Addr} {s s' s'' : Shared} (h : Turned l s s') (h' : Turned l s' s'') : Turned l s s'' :=
  ⟨fun c o n e => h'.k c o n (h.k c o n e), h'.g.trans h.g, h'.d.trans h.d, h'.o.trans h.o⟩
def AFr (fr : Fri) : Assn := AList (fr.map fun p => .ref p.1)
structure IsFr (h : Heap) (l : Addr) (fr : Fri) : Prop where
  at_ : ∃ o, h.get? l = some o ∧ AFr fr o
  ks : ∀ p ∈ fr, IsK h p.1 p.2
theorem IsFr.ne {h : Heap} {l : Addr} {fr : Fri} (I : IsFr h l fr) : ∀ {a : Addr} {k : K3}, IsK h a k → a ≠ l := by
  rintro a k ⟨o, ho, _, _, _, hc, _⟩ rfl
  obtain ⟨o', ho', hc', _⟩ := I.at_
  rw [ho] at ho'; cases ho'
  rw [hc] at hc'; exact absurd (Value.type.inj hc') (by decide)
/-- the list turned -/
theorem IsFr.upd {s s' : Shared} {l : Addr} {fr fr' : Fri} (I : IsFr s.heap l fr) (T : Turned l s s') (h : ∃ o, s'.heap.get? l = some o ∧ AFr fr' o) (hm : ∀ p ∈ fr', p ∈ fr) : IsFr s'.heap l fr' :=
  ⟨h, fun p hp => let ⟨o, ho, hk⟩ := I.ks p (hm p hp); ⟨o, T.k _ _ (I.ne ⟨o, ho, hk⟩) ho, hk⟩⟩
theorem turned_update (l : Addr) (f : Obj → Obj) (hp : Heap) (g : Array GenState) (d : Drawn) (tk : Nat) (os : OsState) : Turned l ⟨hp, g, d, tk, os⟩ ⟨hp.update l f, g, d, tk, os⟩ :=
  ⟨fun c o n e => Heap.get?_update_of_ne f (Ne.symm n) e, rfl, rfl, rfl⟩

section
variable {prog : Program} {w : World} {A : Around} {E : Value → Shared → Prop} {s : Shared}
theorem rc_lt_K {a b : Addr} {x y : K3} {Q : Value → Shared → Prop} (ha : IsK s.heap a x) (hb : IsK s.heap b y) (hu : A.units < cLine) (h : Q (.bool (lt3 x y)) s) : wpAny (model prog w) A (richCompare .Lt (.ref a) (.ref b)) Q E s := by
  have ta : s.TypeIs (.ref a) "tuple" := let ⟨o, ho, _, _, _, c, _⟩ := ha; ⟨o, ho, c⟩
  have tb : s.TypeIs (.ref b) "tuple" := let ⟨o, ho, _, _, _, c, _⟩ := hb; ⟨o, ho, c⟩
  exact richCompare_meets_room (op := .Lt) ta tb F.slot_tuple_lt F.entry_tuple_lt (F.args_tuple_lt_2 _ _) (tup_lt w) ⟨ha, hb, (fun x => nomatch x), h⟩ hu

theorem sift_plain : plainId "_heapq.heapify.sift" = true := by decide +kernel
theorem sift_entry : entryFor table "_heapq.heapify.sift" = some Builtin.«_heapq.heapify.sift» := entryFor_of_tree (by kernel_rfl)

theorem fri_get {fr : Fri} {i : Nat} (hi : i < fr.length) : (fr.map fun p => Value.ref p.1).toArray[i]? = some (.ref fr[i].1) := by simp [hi]
theorem ky_get {fr : Fri} {i : Nat} (hi : i < fr.length) : ky fr i = fr[i].2 := by simp [ky, hi]
theorem swp_arr {fr : Fri} {i j : Nat} (hi : i < fr.length) (hj : j < fr.length) :
    ((fr.map fun p => Value.ref p.1).toArray.setIfInBounds i (.ref fr[j].1)).setIfInBounds j (.ref fr[i].1) = ((swp fr i j).map fun p => Value.ref p.1).toArray := by
  rw [swp_eq hi hj]
  simp

theorem seq_ex {xs ys : Array Value} (h : xs = ys) (k : Nat) : ∃ k', Data.seq xs k = Data.seq ys k' := ⟨k, by rw [h]⟩
theorem upd_fr {M : Model} {A : Around} {l : Addr} {fr : Fri} (fr' : Fri) {f : Array Value → Array Value} (I : IsFr s.heap l fr) (hf : f (fr.map fun p => Value.ref p.1).toArray = (fr'.map fun p => Value.ref p.1).toArray) (hm : ∀ p ∈ fr', p ∈ fr ∨ IsK s.heap p.1 p.2)
    (h1 : fr.length ≤ 1000) (h2 : fr'.length ≤ 1000) (E : Value → Shared → Prop) (Q : Unit → Shared → Prop) (h : ∀ s', IsFr s'.heap l fr' → Turned l s s' → Q () s') : wpAny M A (updateSeq l f) Q E s := by
  obtain ⟨⟨o, ho, hc, n, hd⟩, ks⟩ := id I
  obtain ⟨c, dd, D, sl⟩ := o
  simp only at hc hd
  subst hc hd
  refine wpAny_updateSeq ho rfl (h _ ?_ (turned_update l _ _ _ _ _ _)) ?_ ?_
  · refine ⟨⟨_, Heap.get?_update_self _ ho rfl, rfl, seq_ex hf _⟩, fun p hp => ?_⟩
    · have hk : IsK s.heap p.1 p.2 := (hm p hp).elim (ks p) id
      obtain ⟨o, e, k⟩ := id hk
      exact ⟨o, Heap.get?_update_of_ne _ (Ne.symm (I.ne hk)) e, k⟩
  · simp [sizeLine_eq]; omega
  · rw [hf]; simp [sizeLine_eq]; omega
theorem sift_up {l : Addr} {r : Value} : ∀ (pos : Nat) (fr : Fri),
   Meets (Builtin.«_heapq.heapify.sift» ⟨[.ref l, .bool false, .bool false, rawInt pos, rawInt 0, r, rawInt (-1)], []⟩)
     (fun A R s => A.units + 5 < cLine ∧ IsFr s.heap l fr ∧ UpI fr pos ∧ pos < fr.length ∧ fr.length ≤ 1000 ∧ ∀ fr' s', fr'.Perm fr → Hp fr' → IsFr s'.heap l fr' → Turned l s s' → R (.ok (.ret r)) s') := by
  intro pos
  induction pos using Nat.strongRecOn with
  | _ pos ih =>
  intro fr prog w A R s h
  obtain ⟨hp, g, d, tk, os⟩ := s
  obtain ⟨hu, I, U, hl, hz, h⟩ := h
  have I' := I
  obtain ⟨⟨⟨c1, d1, D1, sl1⟩, ha, hc, n, hd⟩, ks⟩ := I
  simp only at hc hd
  subst hc hd
  have hpos : ((pos : Nat) : Int).toNat = pos := rfl
  wp_walk using wpAny_loadPart' ha
  rw [hpos]
  refine wpAny_ite_split (fun p0 => ?_) (fun p0 => ?_)
  · replace p0 : 0 < pos := p0
    have hpl : (pos - 1) / 2 < fr.length := by omega
    have e1 := fri_get hl
    have e2 := fri_get hpl
    have hless : ∀ (E : Value → Shared → Prop) (Q : Value → Shared → Prop), Q (.bool (lt3 fr[pos].2 fr[(pos - 1) / 2].2)) ⟨hp, g, d, tk, os⟩ → wpAny (model prog w) A.in1 (richCompare .Lt (.ref fr[pos].1) (.ref fr[(pos - 1) / 2].1)) Q E ⟨hp, g, d, tk, os⟩ :=
      fun E Q q => rc_lt_K (ks _ (List.getElem_mem hl)) (ks _ (List.getElem_mem hpl)) (by show A.units + 1 < cLine; omega) q
    wp_walk
    rw [e1]
    wp_walk
    rw [e2]
    wp_walk using hless, wpAny_loadPart' ha
    have hk1 := ky_get hl
    have hk2 := ky_get hpl
    rw [← hk1, ← hk2]
    cases hb : lt3 (ky fr pos) (ky fr ((pos - 1) / 2)) with
    | true =>
      have hup := fun E Q h => upd_fr (M := model prog w) (A := A.in1) (swp fr ((pos - 1) / 2) pos) (f := fun xs => (xs.setIfInBounds ((pos - 1) / 2) (.ref fr[pos].1)).setIfInBounds pos (.ref fr[(pos - 1) / 2].1)) I' (swp_arr hpl hl) (fun p hp => .inl ((swp_perm hpl hl).mem_iff.mp hp)) hz (by rw [swp_length]; exact hz) E Q h
      wp_walk using hup, wpAny_loadPart' ha
      rw [e2]
      wp_walk
      rw [e1]
      wp_walk using hup
      rintro ⟨hp', g', d', tk', os'⟩ I2 T2
      wp_walk
      refine ⟨plainId_quiet sift_plain _, codeAny_builtin sift_entry ?_⟩
      rw [Around.under_plainId sift_plain _]
      refine ih _ (by omega) (swp fr ((pos - 1) / 2) pos) prog w A R _ ⟨hu, I2, up_step U p0 hl hb, by rw [swp_length]; exact hpl, by rw [swp_length]; exact hz, fun fr' s' hP hH hI hT => h fr' s' (hP.trans (swp_perm hpl hl)) hH hI (T2.trans hT)⟩
    | false =>
      wp_walk
      exact h fr _ (.refl _) (up_done U (.inr hb)) I' ⟨fun _ _ _ e => e, rfl, rfl, rfl⟩
  · wp_walk
    have : pos = 0 := Nat.eq_zero_of_not_pos p0
    exact h fr _ (.refl _) (up_done U (.inl this)) I' ⟨fun _ _ _ e => e, rfl, rfl, rfl⟩

theorem sift_down {l : Addr} {r : Value} : ∀ (k pos : Nat) (fr : Fri), fr.length - pos = k →
   Meets (Builtin.«_heapq.heapify.sift» ⟨[.ref l, .bool false, .bool true, rawInt pos, rawInt 0, r, rawInt (-1)], []⟩)
     (fun A R s => A.units + 5 < cLine ∧ IsFr s.heap l fr ∧ DnI fr pos ∧ pos < fr.length ∧ fr.length ≤ 1000 ∧ ∀ fr' s', fr'.Perm fr → Hp fr' → IsFr s'.heap l fr' → Turned l s s' → R (.ok (.ret r)) s') := by
  intro k
  induction k using Nat.strongRecOn with
  | _ k ih =>
  intro pos fr hk prog w A R s h
  obtain ⟨hp, g, d, tk, os⟩ := s
  obtain ⟨hu, I, U, hl, hz, h⟩ := h
  have I' := I
  obtain ⟨⟨⟨c1, d1, D1, sl1⟩, ha, hc, n, hd⟩, ks⟩ := I
  simp only at hc hd
  subst hc hd
  have hpos : ((pos : Nat) : Int).toNat = pos := rfl
  have hsz : (fr.map fun p => Value.ref p.1).toArray.size = fr.length := by simp
  have e1 := fri_get hl
  have go : ∀ c, 0 < c → (c - 1) / 2 = pos → (hc : c < fr.length) → (∀ j, 0 < j → j < fr.length → (j - 1) / 2 = pos → le3 (ky fr c) (ky fr j)) → ∀ s', IsFr s'.heap l (swp fr c pos) → Turned l ⟨hp, g, d, tk, os⟩ s' →
      Code.quiet (.builtin "_heapq.heapify.sift" ⟨[.ref l, .bool false, .bool true, rawInt c, rawInt 0, r, rawInt (-1)], []⟩) = true ∧ codeAny (model prog w) A (.builtin "_heapq.heapify.sift" ⟨[.ref l, .bool false, .bool true, rawInt c, rawInt 0, r, rawInt (-1)], []⟩) R s' := by
    intro c c0 hcp hcl hm s' I2 T2
    refine ⟨plainId_quiet sift_plain _, codeAny_builtin sift_entry ?_⟩
    rw [Around.under_plainId sift_plain _]
    exact ih (fr.length - c) (by omega) c (swp fr c pos) (by rw [swp_length]) prog w A R _ ⟨hu, I2, dn_step U hcp c0 hcl hm, by rw [swp_length]; exact hcl, by rw [swp_length]; exact hz, fun fr' s' hP hH hI hT => h fr' s' (hP.trans (swp_perm hcl hl)) hH hI (T2.trans hT)⟩
  have hup : ∀ c, (hc : c < fr.length) → ∀ E Q, (∀ s', IsFr s'.heap l (swp fr c pos) → Turned l ⟨hp, g, d, tk, os⟩ s' → Q () s') → wpAny (model prog w) A.in1 (updateSeq l fun xs => (xs.setIfInBounds c (.ref fr[pos].1)).setIfInBounds pos (.ref fr[c].1)) Q E ⟨hp, g, d, tk, os⟩ := fun c hc E Q h => upd_fr (M := model prog w) (A := A.in1) (swp fr c pos) I' (swp_arr hc hl) (fun p hp => .inl ((swp_perm hc hl).mem_iff.mp hp)) hz (by rw [swp_length]; exact hz) E Q h
  wp_walk using wpAny_loadPart' ha
  rw [hpos, hsz]
  refine wpAny_ite_split (fun p0 => ?_) (fun p0 => ?_)
  · have hcl : 2 * pos + 1 < fr.length := by omega
    have e2 := fri_get hcl
    wp_walk
    refine wpAny_ite_split (fun p1 => ?_) (fun p1 => ?_)
    · have e3 := fri_get p1
      have hless : ∀ (E : Value → Shared → Prop) (Q : Value → Shared → Prop), Q (.bool (lt3 fr[2 * pos + 1].2 fr[2 * pos + 1 + 1].2)) ⟨hp, g, d, tk, os⟩ → wpAny (model prog w) A.in1 (richCompare .Lt (.ref fr[2 * pos + 1].1) (.ref fr[2 * pos + 1 + 1].1)) Q E ⟨hp, g, d, tk, os⟩ :=
        fun E Q q => rc_lt_K (ks _ (List.getElem_mem hcl)) (ks _ (List.getElem_mem p1)) (by show A.units + 1 < cLine; omega) q
      wp_walk
      rw [e2]
      wp_walk
      rw [e3]
      wp_walk using hless, wpAny_loadPart' ha
      rw [← ky_get hcl, ← ky_get p1]
      cases hb : lt3 (ky fr (2 * pos + 1)) (ky fr (2 * pos + 1 + 1)) with
      | true =>
        wp_walk using wpAny_loadPart' ha
        rw [e2]
        wp_walk
        rw [e1]
        wp_walk using hup (2 * pos + 1) hcl
        rintro ⟨hp', g', d', tk', os'⟩ I2 T2
        wp_walk
        exact go (2 * pos + 1) (by omega) (by omega) hcl (fun j j0 jl hj => by
          rcases (by omega : j = 2 * pos + 1 ∨ j = 2 * pos + 1 + 1) with rfl | rfl
          · exact le3_refl _
          · exact le3_of_lt hb) _ I2 T2
      | false =>
        wp_walk using wpAny_loadPart' ha
        rw [e3]
        wp_walk
        rw [e1]
        wp_walk using hup (2 * pos + 1 + 1) p1
        rintro ⟨hp', g', d', tk', os'⟩ I2 T2
        wp_walk
        exact go (2 * pos + 1 + 1) (by omega) (by omega) p1 (fun j j0 jl hj => by
          rcases (by omega : j = 2 * pos + 1 ∨ j = 2 * pos + 1 + 1) with rfl | rfl
          · exact hb
          · exact le3_refl _) _ I2 T2
    · wp_walk using wpAny_loadPart' ha
      rw [e2]
      wp_walk
      rw [e1]
      wp_walk using hup (2 * pos + 1) hcl
      rintro ⟨hp', g', d', tk', os'⟩ I2 T2
      wp_walk
      exact go (2 * pos + 1) (by omega) (by omega) hcl (fun j j0 jl hj => by
        have : j = 2 * pos + 1 := by omega
        subst this
        exact le3_refl _) _ I2 T2
  · wp_walk
    refine ⟨plainId_quiet sift_plain _, codeAny_builtin sift_entry ?_⟩
    rw [Around.under_plainId sift_plain _]
    exact sift_up pos fr prog w A R _ ⟨hu, I', dn_leaf U p0, hl, hz, h⟩
end
end Mine
end

section
set_option maxRecDepth 100000
set_option maxHeartbeats 400000
set_option linter.unusedVariables false
namespace Mine
open PySem PySem.W PySem.Calls PyProof.Rows
section
variable {prog : Program} {w : World} {A : Around} {E : Value → Shared → Prop} {s : Shared}
theorem heap_push {l : Addr} (fr : Fri) (p : Addr × K3) :
   Meets (Builtin.«_heapq.heappush» ⟨[.ref l, .ref p.1], []⟩)
     (fun A R s => A.units + 5 < cLine ∧ IsFr s.heap l fr ∧ Hp fr ∧ IsK s.heap p.1 p.2 ∧ fr.length < 1000 ∧ ∀ fr' s', fr'.Perm (fr ++ [p]) → Hp fr' → IsFr s'.heap l fr' → Turned l s s' → R (.ok (.ret .none)) s') := by
  intro prog w A R s h
  obtain ⟨hp, g, d, tk, os⟩ := s
  obtain ⟨hu, I, hH, hk, hz, h⟩ := h
  have hT : (⟨hp, g, d, tk, os⟩ : Shared).TypeIs (.ref l) "list" := let ⟨o, ho, hc, _⟩ := I.at_; ⟨o, ho, hc⟩
  have f3 := AutoSeq1.sub_list_list
  have hup := fun E Q h => upd_fr (M := model prog w) (A := A.in1) (fr ++ [p]) (f := fun xs => xs.push (.ref p.1)) I (by simp) (fun q hq => by
    rcases List.mem_append.mp hq with hq | hq
    · exact .inl hq
    · rw [List.mem_singleton.mp hq]; exact .inr hk) (by omega) (by simp; omega) E Q h
  wp_walk using hup
  rintro ⟨hp', g', d', tk', os'⟩ I2 T2
  have I2' := I2
  obtain ⟨⟨⟨c2, d2, D2, sl2⟩, ha2, hc2, n2, hd2⟩, ks2⟩ := I2
  simp only at hc2 hd2
  subst hc2 hd2
  have hsz : ((fr ++ [p]).map fun p => Value.ref p.1).toArray.size - 1 = fr.length := by simp
  wp_walk using wpAny_loadPart' ha2
  rw [hsz]
  refine ⟨plainId_quiet sift_plain _, codeAny_builtin sift_entry ?_⟩
  rw [Around.under_plainId sift_plain _]
  exact sift_up fr.length (fr ++ [p]) prog w A R _ ⟨hu, I2', hp_push p hH, by simp, by simp; omega, fun fr' s' hP hH hI hT => h fr' s' hP hH hI (T2.trans hT)⟩
theorem ky_mem {fr : Fri} {q : Addr × K3} (h : q ∈ fr) : ∃ j, j < fr.length ∧ ky fr j = q.2 := by
  obtain ⟨j, hj⟩ := List.getElem?_of_mem h
  have hl := (List.getElem?_eq_some_iff.mp hj).1
  exact ⟨j, hl, by simp [ky, hj]⟩
theorem heap_pop {l : Addr} (fr : Fri) :
   Meets (Builtin.«_heapq.heappop» ⟨[.ref l], []⟩)
     (fun A R s => A.units + 5 < cLine ∧ IsFr s.heap l fr ∧ Hp fr ∧ fr ≠ [] ∧ fr.length < 1000 ∧ ∀ p fr' s', (p :: fr').Perm fr → (∀ q ∈ fr', le3 p.2 q.2) → Hp fr' → IsFr s'.heap l fr' → Turned l s s' → R (.ok (.ret (.ref p.1))) s') := by
  intro prog w A R s h
  obtain ⟨hp, g, d, tk, os⟩ := s
  obtain ⟨hu, I, hH, hk, hz, h⟩ := h
  have I' := I
  have hT : (⟨hp, g, d, tk, os⟩ : Shared).TypeIs (.ref l) "list" := let ⟨o, ho, hc, _⟩ := I.at_; ⟨o, ho, hc⟩
  have f3 := AutoSeq1.sub_list_list
  obtain ⟨⟨⟨c1, d1, D1, sl1⟩, ha, hc, n, hd⟩, ks⟩ := I
  simp only at hc hd
  subst hc hd
  rcases List.eq_nil_or_concat fr with rfl | ⟨ini, last, rfl⟩
  · exact absurd rfl hk
  rw [List.concat_eq_append] at *
  have e1 : ((ini ++ [last]).map fun p => Value.ref p.1).toArray.back? = some (.ref last.1) := by simp
  have e2 : ((ini ++ [last]).map fun p => Value.ref p.1).toArray.size = ini.length + 1 := by simp
  have hup := fun E Q h => upd_fr (M := model prog w) (A := A.in1) ini (f := fun xs => xs.pop) I' (by simp) (fun q hq => .inl (List.mem_append_left _ hq)) (by omega) (by simp at hz; omega) E Q h
  wp_walk using wpAny_loadPart' ha
  rw [e1]
  wp_walk using hup
  rintro ⟨hp', g', d', tk', os'⟩ I2 T2
  rw [e2]
  cases ini with
  | nil =>
    wp_walk
    exact h last [] _ (.refl _) (fun _ h => nomatch h) (fun j _ hj => absurd hj (by simp)) I2 T2
  | cons i0 tl =>
    have e3 : ((i0 :: tl ++ [last]).map fun p => Value.ref p.1).toArray[0]? = some (.ref i0.1) := by simp
    have hne : ((i0 :: tl).length + 1 == 1) = false := by simp
    rw [hne]
    have hkl : IsK hp' last.1 last.2 := by
      obtain ⟨o, e, k⟩ := ks last (by simp)
      exact ⟨o, T2.k _ _ (I'.ne ⟨o, e, k⟩) e, k⟩
    have hup2 := fun E Q h => upd_fr (s := ⟨hp', g', d', tk', os'⟩) (M := model prog w) (A := A.in1) (last :: tl) (f := fun xs => xs.setIfInBounds 0 (.ref last.1)) I2 (by simp) (fun q hq => by
      rcases List.mem_cons.mp hq with rfl | hq
      · exact .inr hkl
      · exact .inl (List.mem_cons_of_mem _ hq)) (by simp at hz ⊢; omega) (by simp at hz ⊢; omega) E Q h
    wp_walk using hup2
    rintro ⟨hp3, g3, d3, tk3, os3⟩ I3 T3
    wp_walk
    refine ⟨plainId_quiet sift_plain _, codeAny_builtin sift_entry ?_⟩
    rw [Around.under_plainId sift_plain _]
    refine sift_down _ 0 (last :: tl) rfl prog w A R _ ⟨hu, I3, hp_pop (xs := i0 :: tl) hH, by simp, by simp at hz ⊢; omega, fun fr' s' hP hH' hI hT => h i0 fr' s' ?_ ?_ hH' hI ((T2.trans T3).trans hT)⟩
    · refine (hP.cons i0).trans ?_
      exact (List.perm_append_singleton last tl).symm.cons i0
    · intro q hq
      have hq := hP.mem_iff.mp hq
      have : q ∈ i0 :: tl ++ [last] := by
        rcases List.mem_cons.mp hq with rfl | hq
        · simp
        · simp [hq]
      obtain ⟨j, hj, e⟩ := ky_mem this
      rw [← e]
      exact hp_min hH j hj

theorem push_kind : builtinKind "_heapq.heappush" = none := by decide +kernel
theorem push_plain : plainId "_heapq.heappush" = true := by decide +kernel
theorem push_entry : entryFor table "_heapq.heappush" = some Builtin.«_heapq.heappush» := entryFor_of_tree (by kernel_rfl)
theorem push_args (a b : Value) : argsOk "_heapq.heappush" ⟨[a, b], []⟩ := by unfold argsOk; kernel_rfl
theorem pop_kind : builtinKind "_heapq.heappop" = none := by decide +kernel
theorem pop_plain : plainId "_heapq.heappop" = true := by decide +kernel
theorem pop_entry : entryFor table "_heapq.heappop" = some Builtin.«_heapq.heappop» := entryFor_of_tree (by kernel_rfl)
theorem pop_args (a : Value) : argsOk "_heapq.heappop" ⟨[a], []⟩ := by unfold argsOk; kernel_rfl

theorem call_push {l : Addr} {fr : Fri} {p : Addr × K3} {Q : Value → Shared → Prop} (hu : A.units + 5 < cLine) (I : IsFr s.heap l fr) (hH : Hp fr) (hk : IsK s.heap p.1 p.2) (hz : fr.length < 1000)
    (h : ∀ fr' s', fr'.Perm (fr ++ [p]) → Hp fr' → IsFr s'.heap l fr' → Turned l s s' → Q .none s') : wpAny (model prog w) A (call (.builtin "_heapq.heappush") [.ref l, .ref p.1]) Q E s :=
  call_function_meets push_kind push_plain push_entry (push_args _ _) (heap_push fr p) ⟨hu, I, hH, hk, hz, h⟩
theorem call_pop {l : Addr} {fr : Fri} {Q : Value → Shared → Prop} (hu : A.units + 5 < cLine) (I : IsFr s.heap l fr) (hH : Hp fr) (hne : fr ≠ []) (hz : fr.length < 1000)
    (h : ∀ p fr' s', (p :: fr').Perm fr → (∀ q ∈ fr', le3 p.2 q.2) → Hp fr' → IsFr s'.heap l fr' → Turned l s s' → Q (.ref p.1) s') : wpAny (model prog w) A (call (.builtin "_heapq.heappop") [.ref l]) Q E s :=
  call_function_meets pop_kind pop_plain pop_entry (pop_args _) (heap_pop fr) ⟨hu, I, hH, hne, hz, h⟩
end
end Mine
end

section
set_option maxRecDepth 100000
set_option maxHeartbeats 400000
set_option linter.unusedVariables false
set_option autoImplicit false
namespace Mine
open PySem PySem.W PySem.Calls PyProof.Rows

section
variable {prog : Program} {w : World} {A : Around} {E : Value → Shared → Prop} {h₀ : Heap} {L : Addr} {ns : List Str} {vs : List (Option Value)} {l : List (Addr × Assn)} {b s : Shared} {env : Env}

theorem St.perm {l' : List (Addr × Assn)} (S : St h₀ L ns vs l b s) (p : l'.Perm l) : St h₀ L ns vs l' b s :=
  S.weaken (fun q hq => ⟨q, p.mem_iff.mp hq, rfl, fun _ h => h⟩) ((p.map (·.1)).nodup_iff.mpr S.N.2)
/-- less of the ledger -/
theorem St.sub {l' : List (Addr × Assn)} (S : St h₀ L ns vs l b s) (p : l'.Sublist l) : St h₀ L ns vs l' b s :=
  S.weaken (fun q hq => ⟨q, p.subset hq, rfl, fun _ h => h⟩) (S.N.2.sublist (p.map _))
theorem St.mem (S : St h₀ L ns vs l b s) {a : Addr} {P : Assn} (h : (a, P) ∈ l) : ∃ o, s.heap.get? a = some o ∧ P o := (S.N.1 _ h).1

/-- the fringe's entries -/
def frL (fr : Fri) : List (Addr × Assn) := fr.map fun p => (p.1, AK p.2)
theorem frL_mem {fr : Fri} {p : Addr × K3} (h : p ∈ fr) : (p.1, AK p.2) ∈ frL fr := List.mem_map_of_mem (f := fun p : Addr × K3 => (p.1, AK p.2)) h

theorem St.fri (S : St h₀ L ns vs l b s) {i : Nat} {a : Addr} {fr : Fri} (hi : l[i]? = some (a, AFr fr)) (hks : ∀ p ∈ fr, (p.1, AK p.2) ∈ l) : IsFr s.heap a fr :=
  ⟨S.at hi, fun p hp => S.mem (hks p hp)⟩

theorem s_push {a : Addr} {fr : Fri} {p : Addr × K3} {Q : Value → Shared → Prop} (S : St h₀ L ns vs l b s) (hu : A.units + 5 < cLine) (i : Nat) (hi : l[i]? = some (a, AFr fr)) (hks : ∀ p ∈ fr, (p.1, AK p.2) ∈ l) (hk : (p.1, AK p.2) ∈ l) (hH : Hp fr) (hz : fr.length < 1000)
    (h : ∀ fr' s', fr'.Perm (fr ++ [p]) → Hp fr' → St h₀ L ns vs (l.set i (a, AFr fr')) b s' → Q .none s') :
    wpAny (model prog w) A (call (.builtin "_heapq.heappush") [.ref a, .ref p.1]) Q E s := by
  refine call_push hu (S.fri hi hks) hH (S.mem hk) hz fun fr' s' hP hH' hI hT => ?_
  obtain ⟨o, ho, hA⟩ := hI.at_
  exact h fr' s' hP hH' (S.upd hi (fun c o hc e => hT.k c o hc e) hT.g hT.d hT.o ho hA)
theorem s_pop {a : Addr} {fr : Fri} {Q : Value → Shared → Prop} (S : St h₀ L ns vs l b s) (hu : A.units + 5 < cLine) (i : Nat) (hi : l[i]? = some (a, AFr fr)) (hks : ∀ p ∈ fr, (p.1, AK p.2) ∈ l) (hH : Hp fr) (hne : fr ≠ []) (hz : fr.length < 1000)
    (h : ∀ p fr' s', (p :: fr').Perm fr → (∀ q ∈ fr', le3 p.2 q.2) → Hp fr' → St h₀ L ns vs (l.set i (a, AFr fr')) b s' → Q (.ref p.1) s') :
    wpAny (model prog w) A (call (.builtin "_heapq.heappop") [.ref a]) Q E s := by
  refine call_pop hu (S.fri hi hks) hH hne hz fun p fr' s' hP hm hH' hI hT => ?_
  obtain ⟨o, ho, hA⟩ := hI.at_
  exact h p fr' s' hP hm hH' (S.upd hi (fun c o hc e => hT.k c o hc e) hT.g hT.d hT.o ho hA)

/-- a cell -/
def ACell (v : Option Value) : Assn := fun o => o.data = .cell v
theorem ld_c {x : Str} {pos : Pos} {v : Value} {c : Addr} {Q : Value → Shared → Prop} (S : St h₀ L ns vs l b s) (i : Nat) (hi : l[i]? = some (c, ACell (some v))) (hk : env.scope.kind = .function) (hx : env.kindOf x = some .cell) (hc : env.cells.lookup x = some c) (h : Q v s)
    (hd : (x == ("__debug__" : Str)) = false := by decide) : wpAny (model prog w) A (eval (.Name x pos) env) Q E s := by
  obtain ⟨o, ho, hp⟩ := S.at hi
  exact wpAny_Name (wpAny_loadName_cell hk hx hc ⟨o, ho, hp⟩ h) hd
/-- a cell of a base heap -/
theorem ld_c0 {x : Str} {pos : Pos} {v : Value} {c : Addr} {Q : Value → Shared → Prop} (S : St h₀ L ns vs l b s) (hi : h₀.IsCell c (some v)) (hk : env.scope.kind = .function) (hx : env.kindOf x = some .cell) (hc : env.cells.lookup x = some c) (h : Q v s)
    (hd : (x == ("__debug__" : Str)) = false := by decide) : wpAny (model prog w) A (eval (.Name x pos) env) Q E s := by
  obtain ⟨o, ho, hp⟩ := hi
  exact wpAny_Name (wpAny_loadName_cell hk hx hc ⟨o, S.F.keep _ _ ho, hp⟩ h) hd
theorem st_c {x : Str} {v : Value} {v₀ : Option Value} {c : Addr} {Q : Unit → Shared → Prop} (S : St h₀ L ns vs l b s) (i : Nat) (hi : l[i]? = some (c, ACell v₀)) (hk : env.scope.kind = .function) (hx : env.kindOf x = some .cell) (hc : env.cells.lookup x = some c)
    (h : ∀ s', St h₀ L ns vs (l.set i (c, ACell (some v))) b s' → Q () s') : wpAny (model prog w) A (storeName env x v) Q E s := by
  obtain ⟨o, ho, hp⟩ := S.at hi
  refine wpAny_storeName_cell hk hx hc ⟨o, ho, hp⟩ fun h' hc' hs' => ?_
  obtain ⟨o', ho', hp'⟩ := hc'
  exact h _ (S.upd (s' := { s with heap := h' }) hi (fun c o n e => (hs'.2 c n).trans e) rfl rfl rfl ho' hp')

def ALI (a : Addr) (i : Nat) : Assn := fun o => o.cls = .type "list_iterator" ∧ o.data = .fields #[.ref a, .int i 0]
def ARI (x left step : Int) : Assn := AObj { cls := .type "range_iterator", dict := none, data := .fields #[rawInt x, rawInt left, rawInt step], slots := #[] }
def ARange (a b c : Int) : Assn := fun o => ∃ t u v, o = { cls := .type "range", dict := none, data := .fields #[.int a t, .int b u, .int c v], slots := #[] }

theorem St.toExtBut (S : St h₀ L ns vs l b s) {i : Nat} {a : Addr} {P : Assn} (hi : l[i]? = some (a, P)) {h' : Heap} (x : Heap.ExtBut a s.heap h') : St h₀ L ns vs (l.eraseIdx i) b { s with heap := h' } := by
  have S1 : ∀ p ∈ l.eraseIdx i, p.1 ≠ a := by
    intro p hp
    obtain ⟨j, hj⟩ := List.getElem?_of_mem hp
    intro e
    have hn := S.N.2
    rw [List.getElem?_eraseIdx] at hj
    have key : ∀ j, j ≠ i → l[j]? = some p → False := fun j hji hj => hji (nodup_idx hn (x := a) (by rw [List.getElem?_map, hj, ← e]; rfl) (by rw [List.getElem?_map, hi]; rfl))
    split at hj
    · exact key j (by omega) hj
    · exact key (j + 1) (by omega) hj
  have ha := S.N.1 _ (List.mem_of_getElem? hi)
  refine ⟨⟨?_, fun c o e => x c o (fun q => ?_) (S.F.keep c o e), S.F.above⟩, ⟨fun p hp => ?_, S.N.2.sublist ((List.eraseIdx_sublist _ _).map _)⟩, S.len, S.low, S.g, S.d, S.o⟩
  · obtain ⟨oL, es, ep, e, r⟩ := S.F.ns
    exact ⟨oL, es, ep, x L oL (Ne.symm ha.2.1) e, r⟩
  · subst q
    have := ha.2.2.1
    rw [e] at this; cases this
  · obtain ⟨⟨o, e, q⟩, r⟩ := S.N.1 p ((List.eraseIdx_sublist _ _).subset hp)
    exact ⟨⟨o, x _ _ (S1 p hp) e, q⟩, r⟩

section
variable {target : PySem.Expr} {body : List Stmt} {R : Result → Shared → Prop}

theorem s_iterList {a : Addr} {xs : List Value} (J : Nat → List (Option Value) → List (Addr × Assn) → Prop) (S : St h₀ L ns vs l b s) (hh : A.handled = none) (h0 : J 0 vs l)
    (hl : ∀ i vs l s, J i vs l → St h₀ L ns vs l b s → s.heap.IsList a xs.toArray)
    (turn : ∀ i v it It vs l s, xs[i]? = some v → J i vs l → St h₀ L ns vs ((it, It) :: l) b s → wpAny (model prog w) A (assign target env v) (fun _ s₂ => wpAny (model prog w) A (execs body env) (fun f s₃ => match f with
      | .next | .cont => ∃ vs' l', J (i + 1) vs' l' ∧ St h₀ L ns vs' ((it, It) :: l') b s₃
      | .brk => R (.ok .next) s₃
      | .ret v => R (.ok (.ret v)) s₃) (fun _ _ => False) s₂) (fun _ _ => False) s)
    (done : ∀ vs l s, J xs.length vs l → St h₀ L ns vs l b s → R (.ok .next) s)
    (ht : ∀ it v, letOwnedTupleGo target it v = pure () := by intro _ _; rfl) :
    wpAny (model prog w) A (pyIter (.ref a)) (fun it s₂ => codeAny (model prog w) A (.forLoop target it body [] env) R s₂) E s := by
  refine wpAny_pyIter_list (hl _ _ _ _ h0 S) ?_
  have S1 := S.alloc (P := ALI a 0) (o := { cls := .type "list_iterator", data := .fields #[.ref a, .int 0 0] }) ⟨rfl, rfl⟩ rfl
  generalize s.heap.objs.size = it at S1 ⊢
  refine codeAny_forLoop (fun n s' => ∃ i vs l, J i vs l ∧ i ≤ xs.length ∧ n = xs.length - i ∧ St h₀ L ns vs ((it, ALI a i) :: l) b s') ?_ xs.length ⟨0, vs, l, h0, Nat.zero_le _, rfl, S1⟩ (ht _)
  rintro n s' ⟨i, vs, l, hJ, hi, rfl, S⟩
  obtain ⟨o, ho, hc, hd⟩ := S.at (i := 0) rfl
  have hit : s'.heap.IsListIter it a i := ⟨o, ho, hc, hd⟩
  have hls := hl i vs l s' hJ S.tl
  by_cases hlt : i < xs.length
  · refine wpAny_pyNext_list_item (x := xs[i]) hit hls (by simp [hlt]) fun h' hit' hs' => ?_
    obtain ⟨o', ho', hc', hd'⟩ := hit'
    have S2 : St h₀ L ns vs ((it, ALI a (i + 1)) :: l) b { s' with heap := h' } := S.upd (s' := { s' with heap := h' }) (i := 0) rfl (fun c o n e => (hs'.2 c n).trans e) rfl rfl rfl ho' ⟨hc', hd'⟩
    refine wpAny_mono (turn i xs[i] it _ vs l _ (by simp [hlt]) hJ S2) (fun _ s₂ h₂ => wpAny_mono h₂ (fun f s₃ h₃ => ?_) fun _ _ x => x.elim) fun _ _ x => x.elim
    cases f with
    | next => obtain ⟨vs', l', hJ', S'⟩ := h₃; exact ⟨xs.length - (i + 1), by omega, i + 1, vs', l', hJ', hlt, rfl, S'⟩
    | cont => obtain ⟨vs', l', hJ', S'⟩ := h₃; exact ⟨xs.length - (i + 1), by omega, i + 1, vs', l', hJ', hlt, rfl, S'⟩
    | brk => exact h₃
    | ret v => exact h₃
  · have hi' : i = xs.length := by omega
    subst hi'
    refine wpAny_pyNext_list_end hh hit hls (by simp) fun h' he => wpAny_execs_nil ?_
    exact done vs l _ hJ (S.toExtBut (i := 0) rfl he)

theorem s_iterRange {r : Addr} {a c b' : Int} {n : Nat} (J : Nat → List (Option Value) → List (Addr × Assn) → Prop) (S : St h₀ L ns vs ((r, ARange a b' c) :: l) b s) (hh : A.handled = none) (h0 : J 0 vs l)
    (hsmall : Builtin.Range.small a b' c = true) (hn : Builtin.Range.rangeSize a b' c = n)
    (turn : ∀ i tk it It vs l s, i < n → J i vs l → St h₀ L ns vs ((it, It) :: l) b s → wpAny (model prog w) A (assign target env (.int (a + i * c) tk)) (fun _ s₂ => wpAny (model prog w) A (execs body env) (fun f s₃ => match f with
      | .next | .cont => ∃ vs' l', J (i + 1) vs' l' ∧ St h₀ L ns vs' ((it, It) :: l') b s₃
      | .brk => R (.ok .next) s₃
      | .ret v => R (.ok (.ret v)) s₃) (fun _ _ => False) s₂) (fun _ _ => False) s)
    (done : ∀ vs l s, J n vs l → St h₀ L ns vs l b s → R (.ok .next) s)
    (ht : ∀ it v, letOwnedTupleGo target it v = pure () := by intro _ _; rfl) :
    wpAny (model prog w) A (pyIter (.ref r)) (fun it s₂ => codeAny (model prog w) A (.forLoop target it body [] env) R s₂) E s := by
  obtain ⟨o, ho, t, u, v, rfl⟩ := S.at (i := 0) rfl
  refine wpAny_pyIter_range ho hsmall ?_
  have S1 := S.tl.alloc (P := ARI (a + (0 : Nat) * c) ((n : Int) - (0 : Nat)) c) (o := { cls := .type "range_iterator", data := .fields #[rawInt a, rawInt (Builtin.Range.rangeSize a b' c), rawInt c] }) (by
    show _ = _
    rw [hn]; simp) rfl
  generalize s.heap.objs.size = it at S1 ⊢
  refine codeAny_forLoop (fun k s' => ∃ i vs l, J i vs l ∧ i ≤ n ∧ k = n - i ∧ St h₀ L ns vs ((it, ARI (a + i * c) ((n : Int) - (i : Nat)) c) :: l) b s') ?_ n ⟨0, vs, l, h0, Nat.zero_le _, rfl, S1⟩ (ht _)
  rintro k s' ⟨i, vs, l, hJ, hi, rfl, S⟩
  have hit := S.obj (i := 0) rfl
  by_cases hlt : i < n
  · refine wpAny_pyNext_range_item hit (by omega) fun h' hit' hs' => ?_
    have S2 : St h₀ L ns vs ((it, ARI (a + (i + 1 : Nat) * c) ((n : Int) - (i + 1 : Nat)) c) :: l) b { s' with heap := h', toks := s'.toks + 1 } := by
      refine S.upd (s' := { s' with heap := h', toks := s'.toks + 1 }) (i := 0) rfl (fun c o n e => (hs'.2 c n).trans e) rfl rfl rfl hit' ?_
      show _ = _
      have e1 : a + i * c + c = a + (i + 1 : Nat) * c := by push_cast; rw [Int.add_mul]; omega
      have e2 : (n : Int) - (i : Nat) - 1 = (n : Int) - (i + 1 : Nat) := by push_cast; omega
      rw [e1, e2]
    refine wpAny_mono (turn i _ it _ vs l _ hlt hJ S2) (fun _ s₂ h₂ => wpAny_mono h₂ (fun f s₃ h₃ => ?_) fun _ _ x => x.elim) fun _ _ x => x.elim
    cases f with
    | next => obtain ⟨vs', l', hJ', S'⟩ := h₃; exact ⟨n - (i + 1), by omega, i + 1, vs', l', hJ', hlt, rfl, S'⟩
    | cont => obtain ⟨vs', l', hJ', S'⟩ := h₃; exact ⟨n - (i + 1), by omega, i + 1, vs', l', hJ', hlt, rfl, S'⟩
    | brk => exact h₃
    | ret v => exact h₃
  · have hi' : i = n := by omega
    subst hi'
    refine wpAny_pyNext_range_end hh hit (by omega) fun h' he => wpAny_execs_nil ?_
    exact done vs l _ hJ (S.toExtBut (i := 0) rfl he)
end
end
end Mine
end

section
set_option maxRecDepth 100000
set_option maxHeartbeats 400000
set_option linter.unusedVariables false
set_option autoImplicit false
namespace Mine
open PySem PySem.W PySem.Calls PyProof.Rows

/-- an iterator that gives n values -/
structure Steps (prog : Program) (w : World) (A : Around) (I : Addr) (n : Nat) (val : Nat → Value → Prop) (It : Nat → Assn) (pre : Heap → Prop) : Prop where
  item : ∀ i (s : Shared) (o : Obj) (Q : Option Value → Shared → Prop) (E : Value → Shared → Prop), i < n → s.heap.get? I = some o → It i o → pre s.heap →
    (∀ v h' tk o', val i v → h'.get? I = some o' → It (i + 1) o' → (∀ c x, c ≠ I → s.heap.get? c = some x → h'.get? c = some x) → Q (some v) { s with heap := h', toks := tk }) → wpAny (model prog w) A (pyNext (.ref I)) Q E s
  done : ∀ (s : Shared) (o : Obj) (Q : Option Value → Shared → Prop) (E : Value → Shared → Prop), s.heap.get? I = some o → It n o → pre s.heap → (∀ h', Heap.ExtBut I s.heap h' → Q none { s with heap := h' }) → wpAny (model prog w) A (pyNext (.ref I)) Q E s
  self : ∀ i (s : Shared) (o : Obj) (Q : Value → Shared → Prop) (E : Value → Shared → Prop), s.heap.get? I = some o → It i o → Q (.ref I) s → wpAny (model prog w) A (pyIter (.ref I)) Q E s

theorem Steps.range {prog : Program} {w : World} {A : Around} (hh : A.handled = none) (I : Addr) (a c : Int) (n : Nat) :
    Steps prog w A I n (fun i v => ∃ t, v = .int (a + i * c) t) (fun i => ARI (a + i * c) ((n : Int) - (i : Nat)) c) (fun _ => True) where
  item := fun i s o Q E hi ho hI _ h => by
    cases hI
    refine wpAny_pyNext_range_item ho (by omega) fun h' hit' hs' => ?_
    refine h _ h' _ _ ⟨_, rfl⟩ hit' ?_ (fun c x n e => (hs'.2 c n).trans e)
    show _ = _
    have e1 : a + i * c + c = a + (i + 1 : Nat) * c := by push_cast; rw [Int.add_mul]; omega
    have e2 : (n : Int) - (i : Nat) - 1 = (n : Int) - (i + 1 : Nat) := by push_cast; omega
    rw [e1, e2]
  done := fun s o Q E ho hI _ h => by
    cases hI
    exact wpAny_pyNext_range_end hh ho (by omega) h
  self := fun i s o Q E ho hI h => by
    cases hI
    exact wpAny_pyIter_rangeiter ho h
theorem Steps.list {prog : Program} {w : World} {A : Around} (hh : A.handled = none) (I a : Addr) (xs : List Value) :
    Steps prog w A I xs.length (fun i v => xs[i]? = some v) (fun i => ALI a i) (fun h => h.IsList a xs.toArray) where
  item := fun i s o Q E hi ho hI hl h => by
    refine wpAny_pyNext_list_item (x := xs[i]) ⟨o, ho, hI.1, hI.2⟩ hl (by simp [hi]) fun h' hit' hs' => ?_
    obtain ⟨o', ho', hc', hd'⟩ := hit'
    exact h _ h' _ o' (by simp [hi]) ho' ⟨hc', hd'⟩ (fun c x n e => (hs'.2 c n).trans e)
  done := fun s o Q E ho hI hl h => wpAny_pyNext_list_end hh ⟨o, ho, hI.1, hI.2⟩ hl (by simp) h
  self := fun i s o Q E ho hI h => wpAny_pyIter_listiter ⟨o, ho, hI.1, hI.2⟩ h

theorem pick_two {α : Type} {a b : α} {l : List α} : (a :: b :: l).Perm (b :: a :: l) := List.Perm.swap b a l

section
variable {prog : Program} {w : World} {A : Around} {E : Value → Shared → Prop} {h₀ : Heap} {L : Addr} {ns : List Str} {vs : List (Option Value)} {l : List (Addr × Assn)} {b s : Shared} {env : Env}

def compEvOk (sc : Scope) (x : Str) : Bool := sc.kind == .function && sc.names.lookup x == some .local && !(x == ("__debug__" : Str)) && sc.names.all (fun y => !(y.2 == .cell) && (!(y.2 == .local) || sc.names.lookup y.1 == some .local))

/-- a block's own names, as an object -/
def ANs (C : Addr) : Assn := fun o => ∃ m, ∀ h : Heap, h.get? C = some o → h.Ns C m
theorem St.names {C : Addr} {i : Nat} (S : St h₀ L ns vs l b s) (hi : l[i]? = some (C, ANs C)) : ∃ m, s.heap.Ns C m := by
  obtain ⟨o, e, m, h⟩ := S.at hi
  exact ⟨m, h _ e⟩
/-- behind a comprehension whose value goes on -/
theorem post_none {C D : Addr} {P : Assn} {Q : Value → Shared → Prop} (S : St h₀ L ns vs ((C, ANs C) :: (D, P) :: l) b s) (h : ∀ s', St h₀ L ns vs ((D, P) :: l) b s' → Q (.ref D) s') : compPost (model prog w) A E none Q (.ref D) C (.ok .next) s := by
  obtain ⟨m, hm⟩ := S.names (i := 0) rfl
  exact ⟨m, hm, fun h' hs => h _ (S.toExtBut (i := 0) rfl hs.extBut)⟩
/-- behind a comprehension whose value is bound to a name at once -/
theorem post_store {C D : Addr} {P : Assn} {y : Str} {py : Pos} {Q : Value → Shared → Prop} (e : Ev env L ns) (S : St h₀ L ns vs ((C, ANs C) :: (D, P) :: l) b s) (i : Nat) (hy : ns[i]? = some y) (h : ∀ s', St h₀ L ns (vs.set i (some (.ref D))) ((D, P) :: l) b s' → Q .none s') :
    compPost (model prog w) A E (some (assign (.Name y py) env)) Q (.ref D) C (.ok .next) s := by
  show wpAny _ A (assign (.Name y py) env (.ref D)) _ E s
  refine wpAny_assign_Name (st_i e S i hy fun s' S' => ?_)
  obtain ⟨m, hm⟩ := S'.names (i := 0) rfl
  exact ⟨m, hm, fun h' hs => h _ (S'.toExtBut (i := 0) rfl hs.extBut)⟩
/-- A LIST COMPREHENSION of one clause, behind its iterator -/
theorem s_compU {use : Option (Value → Sem Unit)} {elt iter : PySem.Expr} {x : Str} {px pos : Pos} {ifs : List PySem.Expr} {scope : Scope} {cl : List (Str × Addr)} {I : Addr} {n : Nat} {val : Nat → Value → Prop} {It : Nat → Assn} {pre : Heap → Prop} {Q : Value → Shared → Prop}
    (P : Nat → List Value → Prop) (S : St h₀ L ns vs ((I, It 0) :: l) b s) (T : Steps prog w A I n val It pre) (hn : n ≤ 10000) (hsc : compEvOk scope x = true) (hg : env.globals = mainGlobals) (hb : env.builtins = builtinsNs)
    (hpre : ∀ h', (∀ a o, a ≠ I → s.heap.get? a = some o → h'.get? a = some o) → pre h') (h0 : P 0 [])
    (turn : ∀ i v ys C h₁ hid s', i < n → val i v → P i ys → ys.length ≤ i → (∀ a o, a ≠ I → s.heap.get? a = some o → h₁.get? a = some o) → St h₁ C [x] [some v] hid s s' → Ev (compEnvC scope cl C env) C [x] →
      wpAny (model prog w) A (forIn ifs true fun c r => if r = true then do let ok ← isTrue c (compEnvC scope cl C env) (eval c (compEnvC scope cl C env)); pure (ForInStep.yield ok) else pure (ForInStep.yield r)) (fun ok s₂ =>
        if ok = true then wpAny (model prog w) A (eval elt (compEnvC scope cl C env)) (fun y s₃ => P (i + 1) (ys ++ [y]) ∧ ∃ vs', St h₁ C [x] vs' hid s s₃) (fun _ _ => False) s₂
        else P (i + 1) ys ∧ ∃ vs', St h₁ C [x] vs' hid s s₂) (fun _ _ => False) s')
    (done : ∀ C D ys s', P n ys → ys.length ≤ n → St h₀ L ns vs ((C, ANs C) :: (D, AList ys) :: l) b s' → compPost (model prog w) A E use Q (.ref D) C (.ok .next) s') :
    wpAny (model prog w) A (newList []) (fun acc s₃ => wpAny (model prog w) A (newFunctionEnv scope env.globals cl [] env.qual none .none (some env)) (fun cenv s₄ =>
      codeAny (model prog w) A (.compStart (.ListComp elt [⟨.Name x px, iter, ifs, 0⟩] scope pos) 0 (.ref I) acc { cenv with scope := relabel scope env }) (compPost (model prog w) A E use Q acc cenv.locals) s₄) E s₃) E s := by
  simp only [compEvOk, Bool.and_eq_true, beq_iff_eq, Bool.not_eq_true', List.all_eq_true] at hsc
  obtain ⟨⟨⟨hkind, hx⟩, hdbg⟩, hall⟩ := hsc
  have hcell : ∀ y ∈ scope.names, y.2 ≠ .cell := fun y hy e => by
    have := (hall y hy).1
    rw [e] at this; exact absurd this (by decide)
  have S₁ := S.alloc (P := AList []) (o := { cls := .type "list", dict := none, data := .seq ([] : List Value).toArray }) ⟨rfl, _, rfl⟩ rfl
  refine wpAny_newObj_type ?_
  have hDs : s.heap.get? s.heap.objs.size = none := Heap.get?_none_of_le (Nat.le_refl _)
  have hpush : ∀ a o, s.heap.get? a = some o → (s.heap.push { cls := .type "list", dict := none, data := .seq ([] : List Value).toArray }).get? a = some o := fun a o e => Heap.get?_push_of_some _ e
  generalize hD' : s.heap.objs.size = D at S₁ hDs ⊢
  generalize hs₁ : ({ s with heap := s.heap.push { cls := .type "list", dict := none, data := .seq ([] : List Value).toArray } } : Shared) = s₁ at S₁ ⊢
  have hk₁ : ∀ a o, s.heap.get? a = some o → s₁.heap.get? a = some o := by rw [← hs₁]; exact hpush
  have hg₁ : s₁.gens = s.gens := by rw [← hs₁]
  have hd₁ : s₁.drawn = s.drawn := by rw [← hs₁]
  have ho₁ : s₁.os = s.os := by rw [← hs₁]
  clear hs₁ hpush hD'
  -- the frame
  refine wpAny_newFunctionEnv hcell (by intro y hy; simp at hy) (fun h₁ hns₁ hsb₁ => ?_) hkind
  have hno : (fun y => ([] : List (Str × Value)).reverse.lookup y) = fm [x] [none] := by funext y; unfold fm; split <;> rfl
  rw [hno] at hns₁
  have hk : ∀ a o, s₁.heap.get? a = some o → h₁.get? a = some o := fun a o e => hsb₁.extBut a o (Nat.ne_of_lt (Heap.lt_size e)) (Heap.get?_push_of_some _ e)
  have lmIn : ∀ p ∈ [(D, AList []), (I, It 0)], p ∈ (D, AList ([] : List Value)) :: (I, It 0) :: l := by simp
  have SI : St (hideAll s₁.heap [D, I]) s₁.heap.objs.size [x] [none] [(D, AList []), (I, It 0)] s₁ { s₁ with heap := h₁, toks := s₁.toks + ([] : List (Str × Value)).length } := by
    refine ⟨⟨hns₁, fun a o e => hk a o (of_hideAll _ e), Nat.le_of_eq (hideAll_size _ _)⟩, ⟨fun p hp => ?_, ?_⟩, rfl, ?_, rfl, rfl, rfl⟩
    · obtain ⟨⟨o, a, c⟩, _, _, lo⟩ := S₁.N.1 p (lmIn p hp)
      exact ⟨⟨o, hk _ _ a, c⟩, Nat.ne_of_lt (Heap.lt_size a), hideAll_none _ (by
        rcases List.mem_cons.mp hp with rfl | hp
        · simp
        · simp at hp; subst hp; simp), lo⟩
    · have := S₁.N.2
      simp only [List.map_cons, List.nodup_cons, List.mem_cons, not_or] at this ⊢
      exact ⟨⟨this.1.1, by simp⟩, by simp, List.nodup_nil⟩
    · rw [hideAll_size]; exact S₁.lowS
  have hD : D ≠ I := S₁.ne 0 1 rfl rfl rfl
  have hCs : s₁.heap.get? s₁.heap.objs.size = none := Heap.get?_none_of_le (Nat.le_refl _)
  have base : ∀ a o, a ≠ I → s.heap.get? a = some o → (hideAll s₁.heap [D, I]).get? a = some o := fun a o n e => hide_get (hk₁ a o e) (by
    intro hm
    simp at hm
    rcases hm with rfl | rfl
    · rw [hDs] at e; cases e
    · exact n rfl)
  have evc : Ev (compEnvC scope cl s₁.heap.objs.size env) s₁.heap.objs.size [x] := by
    refine ⟨by simp [compEnvC, relabel, hkind], rfl, ?_, ?_, by simp, hg, hb⟩
    · intro y hy
      simp at hy; subst hy
      exact lookup_relabel_local hx
    · intro y hy
      simp at hy; subst hy
      exact hdbg
  have loop : ∀ C, C = s₁.heap.objs.size → ∀ s₃ : Shared, St (hideAll s₁.heap [D, I]) C [x] [none] [(D, AList []), (I, It 0)] s₁ s₃ →
      codeAny (model prog w) A (.compLoop (.ListComp elt [⟨.Name x px, iter, ifs, 0⟩] scope pos) 0 (.ref I) (.ref D) (compEnvC scope cl C env)) (compPost (model prog w) A E use Q (.ref D) C) s₃ := by
    intro C hC s₃ S₃
    rw [← hC] at evc hCs
    have hjoin : ∀ (vs' : List (Option Value)) (D' : List (Addr × Assn)) (s' : Shared), St (hideAll s₁.heap [D, I]) C [x] vs' D' s₁ s' → St h₀ L ns vs (D' ++ l) b s' := fun vs' D' s' S' => by
      refine S₁.join (lm := [(D, AList []), (I, It 0)]) (rest := l) lmIn (fun p hp => by simp [hp]) ?_ S'
      exact S₁.N.2
    refine codeAny_compLoop_tests (fun k s' => ∃ i vs' ys, P i ys ∧ ys.length ≤ i ∧ i ≤ n ∧ k = n - i ∧ St (hideAll s₁.heap [D, I]) C [x] vs' [(D, AList ys), (I, It i)] s₁ s') ?_ n ⟨0, _, [], h0, Nat.le_refl _, Nat.zero_le _, rfl, S₃⟩
    rintro k s' ⟨i, vs', ys, hP, hlen, hi, rfl, S'⟩
    obtain ⟨o, ho, hI⟩ := S'.at (i := 1) rfl
    have hpre' : pre s'.heap := hpre _ fun a o n e => S'.F.keep _ _ (base a o n e)
    by_cases hlt : i < n
    · refine T.item i s' o _ _ hlt ho hI hpre' fun v h' tk o' hv ho' hI' hk' => ?_
      have S4 : St (hideAll s₁.heap [D, I]) C [x] vs' [(D, AList ys), (I, It (i + 1))] s₁ { s' with heap := h', toks := tk } := S'.upd (s' := { s' with heap := h', toks := tk }) (i := 1) rfl hk' rfl rfl rfl ho' hI'
      refine wpAny_assign_Name (st_i evc S4 0 rfl ?_)
      intro s₅ S₅
      have hvs : vs'.set 0 (some v) = [some v] := by
        have := S'.len
        match vs', this with
        | [u], _ => rfl
      rw [hvs] at S₅
      have S₆ : St (hideAll s₁.heap [D, I]) C [x] [some v] [(D, AList ys), (I, It (i + 1))] s s₅ := ⟨S₅.F, S₅.N, S₅.len, S₅.low, S₅.g.trans hg₁, S₅.d.trans hd₁, S₅.o.trans ho₁⟩
      refine wpAny_mono (turn i v ys C _ _ s₅ hlt hv hP hlen base S₆ evc) (fun ok s₆ h₆ => ?_) fun _ _ x => x.elim
      have down : ∀ {vs' hid s'}, St (hideAll s₁.heap [D, I]) C [x] vs' hid s s' → St (hideAll s₁.heap [D, I]) C [x] vs' hid s₁ s' := fun S₅ => ⟨S₅.F, S₅.N, S₅.len, S₅.low, S₅.g.trans hg₁.symm, S₅.d.trans hd₁.symm, S₅.o.trans ho₁.symm⟩
      cases ok with
      | false =>
        simp only [Bool.false_eq_true, if_false] at h₆ ⊢
        obtain ⟨hP', vs'', S₇⟩ := h₆
        exact ⟨n - (i + 1), by omega, i + 1, vs'', ys, hP', by omega, hlt, rfl, down S₇⟩
      | true =>
        simp only [if_true] at h₆ ⊢
        refine wpAny_mono h₆ (fun y s₇ h₇ => ?_) fun _ _ x => x.elim
        obtain ⟨hP', vs'', S₇⟩ := h₇
        refine wpAny_list_append (S₇.lst (i := 0) rfl) (fun h' hl' hs' => ?_) (by rw [sizeLine_eq]; simp; omega)
        obtain ⟨o₈, ho₈, hc₈, hd₈⟩ := hl'
        refine ⟨n - (i + 1), by omega, i + 1, vs'', ys ++ [y], hP', by simp; omega, hlt, rfl, down ?_⟩
        exact S₇.upd (s' := { s₇ with heap := h' }) (i := 0) rfl (fun c o n e => (hs'.2 c n).trans e) rfl rfl rfl ho₈ ⟨hc₈, by simpa using hd₈⟩
    · have hi' : i = n := by omega
      subst hi'
      refine T.done s' o _ _ ho hI hpre' fun h' he => ?_
      have S₇ := S'.toExtBut (i := 1) rfl he
      have S₈ : St h₀ L ns vs ((D, AList ys) :: l) b { s' with heap := h' } := hjoin _ _ _ S₇
      have hn1 : ∀ a o, s₁.heap.get? a = some o → a ≠ C := fun a o e q => by rw [q, hCs] at e; cases e
      obtain ⟨oL, es, ep, e, r⟩ := S₇.F.ns
      obtain ⟨oL', eL'⟩ := S₁.L_get
      refine done C D ys _ hP hlen (S₈.add e ⟨_, fun h e => ⟨oL, es, ep, e, r⟩⟩ ?_ (Ne.symm (hn1 _ _ eL')) ?_ ?_)
      · cases q : h₀.get? C with
        | none => rfl
        | some o => rw [S₁.F.keep _ _ q] at hCs; cases hCs
      · rw [hC]; exact beq_eq_false_iff_ne.mpr (Nat.ne_of_gt S₁.lowS)
      · intro hm
        obtain ⟨p, hp, ep⟩ := List.mem_map.mp hm
        have : p.1 ≠ C := by
          rcases List.mem_cons.mp hp with rfl | hp
          · obtain ⟨⟨o, q, _⟩, _⟩ := S₁.N.1 (D, AList []) (by simp)
            exact hn1 _ _ q
          · obtain ⟨⟨o, q, _⟩, _⟩ := S₁.N.1 p (by simp [hp])
            exact hn1 _ _ q
        exact this ep
  obtain ⟨o, ho, hI⟩ := SI.at (i := 1) rfl
  exact codeAny_compStart_list (loop _ rfl _ SI) (T.self 0 _ o _ _ ho hI (loop _ rfl _ SI))

/-- a comprehension whose value goes on -/
theorem s_comp {elt iter : PySem.Expr} {x : Str} {px pos : Pos} {ifs : List PySem.Expr} {scope : Scope} {cl : List (Str × Addr)} {I : Addr} {n : Nat} {val : Nat → Value → Prop} {It : Nat → Assn} {pre : Heap → Prop} {Q : Value → Shared → Prop}
    (P : Nat → List Value → Prop) (S : St h₀ L ns vs ((I, It 0) :: l) b s) (T : Steps prog w A I n val It pre) (hn : n ≤ 10000) (hsc : compEvOk scope x = true) (hg : env.globals = mainGlobals) (hb : env.builtins = builtinsNs)
    (hpre : ∀ h', (∀ a o, a ≠ I → s.heap.get? a = some o → h'.get? a = some o) → pre h') (h0 : P 0 [])
    (turn : ∀ i v ys C h₁ hid s', i < n → val i v → P i ys → ys.length ≤ i → (∀ a o, a ≠ I → s.heap.get? a = some o → h₁.get? a = some o) → St h₁ C [x] [some v] hid s s' → Ev (compEnvC scope cl C env) C [x] →
      wpAny (model prog w) A (forIn ifs true fun c r => if r = true then do let ok ← isTrue c (compEnvC scope cl C env) (eval c (compEnvC scope cl C env)); pure (ForInStep.yield ok) else pure (ForInStep.yield r)) (fun ok s₂ =>
        if ok = true then wpAny (model prog w) A (eval elt (compEnvC scope cl C env)) (fun y s₃ => P (i + 1) (ys ++ [y]) ∧ ∃ vs', St h₁ C [x] vs' hid s s₃) (fun _ _ => False) s₂
        else P (i + 1) ys ∧ ∃ vs', St h₁ C [x] vs' hid s s₂) (fun _ _ => False) s')
    (done : ∀ D ys s', P n ys → ys.length ≤ n → St h₀ L ns vs ((D, AList ys) :: l) b s' → Q (.ref D) s') :
    wpAny (model prog w) A (newList []) (fun acc s₃ => wpAny (model prog w) A (newFunctionEnv scope env.globals cl [] env.qual none .none (some env)) (fun cenv s₄ =>
      codeAny (model prog w) A (.compStart (.ListComp elt [⟨.Name x px, iter, ifs, 0⟩] scope pos) 0 (.ref I) acc { cenv with scope := relabel scope env }) (compPost (model prog w) A E none Q acc cenv.locals) s₄) E s₃) E s :=
  s_compU P S T hn hsc hg hb hpre h0 turn fun C D ys s' hP hl S' => post_none S' fun s2 S2 => done D ys s2 hP hl S2
/-- x = [.. for ..], both on one line: the value is bound before the block's names go -/
theorem s_compAssign {elt iter : PySem.Expr} {x y : Str} {px py : Pos} {ifs : List PySem.Expr} {scope : Scope} {cl : List (Str × Addr)} {pos spos : Pos} {Q : Flow → Shared → Prop} (hsw : swapsWith (.ListComp elt [⟨.Name x px, iter, ifs, 0⟩] scope pos) (some (.Name y py)) spos.line env = pure true) (hsc : compEvOk scope x = true) (hclos : closureFor scope env = pure cl)
    (h : wpAny (model prog w) A (eval iter env) (fun xv s₁ => wpAny (model prog w) A (pyIter xv) (fun it s₂ => wpAny (model prog w) A (newList []) (fun acc s₃ => wpAny (model prog w) A (newFunctionEnv scope env.globals cl [] env.qual none .none (some env)) (fun cenv s₄ =>
      codeAny (model prog w) A (.compStart (.ListComp elt [⟨.Name x px, iter, ifs, 0⟩] scope pos) 0 it acc { cenv with scope := relabel scope env }) (compPost (model prog w) A E (some (assign (.Name y py) env)) (fun _ s' => Q .next s') acc cenv.locals) s₄) E s₃) E s₂) E s₁) E s)
    (hs : ∀ x, foldedSetIterable iter env x = pure x := by intro _; rfl) :
    wpAny (model prog w) A (exec (.Assign [.Name y py] (.ListComp elt [⟨.Name x px, iter, ifs, 0⟩] scope pos) spos) env) Q E s := by
  simp only [compEvOk, Bool.and_eq_true, beq_iff_eq, Bool.not_eq_true', List.all_eq_true] at hsc
  obtain ⟨⟨⟨hkind, hx⟩, hdbg⟩, hall⟩ := hsc
  rw [exec_Assign_Name_used _ _ _ _ hsw]
  refine wpAny_bind (wpAny_standAt (wpAny_bind ?_))
  show wpAny _ A (do let _ ← comprehension (.ListComp elt [⟨.Name x px, iter, ifs, 0⟩] scope pos) scope env _ (newList []) false (eval iter env) (some (assign (.Name y py) env))) _ _ s
  refine wpAny_bind (wpAny_mono (wpAny_comprehension_free (use := some (assign (.Name y py) env)) (Q := fun _ s' => Q .next s') rfl hs hclos hkind (fun y hy e => ?_) h) (fun _ s' hq => wpAny_pure (wpAny_pure hq)) fun _ _ e => e)
  have := (hall y hy).2
  rw [e] at this
  simpa using this

/-- a whole comprehension over a range -/
theorem s_compEval {elt iter : PySem.Expr} {x : Str} {px pos : Pos} {ifs : List PySem.Expr} {scope : Scope} {cl : List (Str × Addr)} {Q : Value → Shared → Prop} (hsc : compEvOk scope x = true) (hclos : closureFor scope env = pure cl)
    (h : wpAny (model prog w) A (eval iter env) (fun xv s₁ => wpAny (model prog w) A (pyIter xv) (fun it s₂ => wpAny (model prog w) A (newList []) (fun acc s₃ => wpAny (model prog w) A (newFunctionEnv scope env.globals cl [] env.qual none .none (some env)) (fun cenv s₄ =>
      codeAny (model prog w) A (.compStart (.ListComp elt [⟨.Name x px, iter, ifs, 0⟩] scope pos) 0 it acc { cenv with scope := relabel scope env }) (compPost (model prog w) A E none Q acc cenv.locals) s₄) E s₃) E s₂) E s₁) E s)
    (hs : ∀ x, foldedSetIterable iter env x = pure x := by intro _; rfl) :
    wpAny (model prog w) A (eval (.ListComp elt [⟨.Name x px, iter, ifs, 0⟩] scope pos) env) Q E s := by
  simp only [compEvOk, Bool.and_eq_true, beq_iff_eq, Bool.not_eq_true', List.all_eq_true] at hsc
  obtain ⟨⟨⟨hkind, hx⟩, hdbg⟩, hall⟩ := hsc
  rw [eval_ListComp]
  refine wpAny_comprehension_free (use := none) rfl hs hclos hkind (fun y hy e => ?_) h
  have := (hall y hy).2
  rw [e] at this
  simpa using this

/-- pyIter of a range, of a list: the iterator onto the ledger -/
theorem it_range {r : Addr} {a c b' : Int} {n : Nat} {Q : Value → Shared → Prop} (S : St h₀ L ns vs ((r, ARange a b' c) :: l) b s) (hsmall : Builtin.Range.small a b' c = true) (hn : Builtin.Range.rangeSize a b' c = n)
    (h : ∀ I s', St h₀ L ns vs ((I, ARI (a + (0 : Nat) * c) ((n : Int) - (0 : Nat)) c) :: l) b s' → Q (.ref I) s') : wpAny (model prog w) A (pyIter (.ref r)) Q E s := by
  obtain ⟨o, ho, t, u, v, rfl⟩ := S.at (i := 0) rfl
  refine wpAny_pyIter_range ho hsmall (h _ _ ?_)
  exact S.tl.alloc (P := ARI (a + (0 : Nat) * c) ((n : Int) - (0 : Nat)) c) (o := { cls := .type "range_iterator", data := .fields #[rawInt a, rawInt (Builtin.Range.rangeSize a b' c), rawInt c] }) (by
    show _ = _
    rw [hn]; simp) rfl
theorem it_list {a : Addr} {xs : List Value} {Q : Value → Shared → Prop} (S : St h₀ L ns vs l b s) (hl : s.heap.IsList a xs.toArray)
    (h : ∀ I s', St h₀ L ns vs ((I, ALI a 0) :: l) b s' → Q (.ref I) s') : wpAny (model prog w) A (pyIter (.ref a)) Q E s := by
  refine wpAny_pyIter_list hl (h _ _ ?_)
  exact S.alloc (P := ALI a 0) (o := { cls := .type "list_iterator", data := .fields #[.ref a, .int 0 0] }) ⟨rfl, rfl⟩ rfl

theorem s_range1 {n : Int} {t : Tok} {Q : Value → Shared → Prop} (S : St h₀ L ns vs l b s) (h : ∀ r s', St h₀ L ns vs ((r, ARange 0 n 1) :: l) b s' → Q (.ref r) s') : wpAny (model prog w) A (call (.type "range") [.int n t]) Q E s :=
  call_range_1 (h _ _ ((S.alloc (P := ARange 0 n 1) ⟨_, _, _, rfl⟩ rfl).tok _))
theorem s_range2 {a n : Int} {t u : Tok} {Q : Value → Shared → Prop} (S : St h₀ L ns vs l b s) (h : ∀ r s', St h₀ L ns vs ((r, ARange a n 1) :: l) b s' → Q (.ref r) s') : wpAny (model prog w) A (call (.type "range") [.int a t, .int n u]) Q E s :=
  call_range_2 (h _ _ ((S.alloc (P := ARange a n 1) ⟨_, _, _, rfl⟩ rfl).tok _))
theorem s_range3 {a n c : Int} {t u v : Tok} {Q : Value → Shared → Prop} (S : St h₀ L ns vs l b s) (hc : 0 < c) (hc2 : c < 1000000) (h : ∀ r s', St h₀ L ns vs ((r, ARange a n c) :: l) b s' → Q (.ref r) s') : wpAny (model prog w) A (call (.type "range") [.int a t, .int n u, .int c v]) Q E s :=
  call_range_3 (by omega) (h _ _ (S.alloc (P := ARange a n c) ⟨_, _, _, rfl⟩ rfl)) (hp := .inl (PyProof.noPylong_small (by omega)))
end
end Mine
end

section
set_option maxRecDepth 100000
set_option maxHeartbeats 400000
set_option linter.unusedVariables false
namespace Mine
open PySem PySem.W PySem.Calls PyProof.Rows

section
variable {w : World} {A : Around} {E : Value → Shared → Prop} {h₀ : Heap} {L : Addr} {ns : List Str} {vs : List (Option Value)} {l : List (Addr × Assn)} {b s : Shared} {f : Addr} {fo : Obj} {fd : FuncData} {k : Nat}

/-- A CALL OF A DEF with one cell, which is a parameter -/
theorem callc1 {body : List Stmt} (S : St h₀ L ns vs l b s) (W : Wd w h₀) (ns' : List Str) (vs' : List (Option Value)) (cx : Str) (cv : Value) (lm rest : List (Addr × Assn)) (hlm : ∀ p ∈ lm, p ∈ l) (hrest : ∀ p ∈ rest, p ∈ l) (hnd : ((lm ++ rest).map (·.1)).Nodup)
    (r : Rm A (k + 1)) (ho : (hd.heap_39 w.params).lookup f = some fo) (hdat : fo.data = .func fd) (hbody : fd.body = .stmts body) (hcd : codeIn (hd.heap_39 w.params) fd.code fd.qualname = true)
    (hev : evOk fd.scope ns' = true) (hgl : fd.globals = mainGlobals) (hbl : fd.builtins = builtinsNs) (hlen : vs'.length = ns'.length) {vals : List Value} {R : Result → Shared → Prop} (binds : List (Str × Value))
    (hbind : bindArgs fd ⟨vals, []⟩ = pure binds) (hclo : fd.closure = []) (hcells : ∀ n, cellsFrom n fd.scope.names [] = [(cx, n)])
    (hkind : ∀ x ∈ binds, fd.scope.names.lookup x.1 = some .local ∨ (fd.scope.names.lookup x.1 = some .cell ∧ x.1 = cx))
    (hL : ∀ L', bindL (callEnvC fd L' f).kindOf binds (fun _ => none) = fm ns' vs') (hC : ∀ L', bindC (callEnvC fd L' f).kindOf binds (fun _ => none) cx = some cv)
    (h : ∀ L' c s', St (hideAll s.heap (lm.map (·.1))) L' ns' vs' ((c, ACell (some cv)) :: lm) s s' → Ev (callEnvC fd L' f) L' ns' → (callEnvC fd L' f).cells = [(cx, c)] → Rm (A.deeper (callEnvC fd L' f)) k →
      (∀ vs'' l' s'', St (hideAll s.heap (lm.map (·.1))) L' ns' vs'' l' s s'' → St h₀ L ns vs (l' ++ rest) b s'') →
      wpAny (model PySem.Challenge.pw_ab5042_01 w) (A.deeper (callEnvC fd L' f)) (execs body (callEnvC fd L' f)) (fun fl s'' => R (.ok (.ret (retOf fl))) s'') (fun _ _ => False) s') :
    codeAny (model PySem.Challenge.pw_ab5042_01 w) A (.call (.ref f) ⟨vals, []⟩) R s := by
  have hev' := hev
  simp only [evOk, Bool.and_eq_true, List.all_eq_true, beq_iff_eq, Bool.not_eq_true', decide_eq_true_eq] at hev'
  obtain ⟨⟨⟨⟨h1, h4⟩, h5⟩, h2⟩, h3⟩ := hev'
  have hnl : (s.heap).NoLimit := W.nolimit.keeps S.F.keep
  have hX := W.X.keeps S.F.keep
  refine codeAny_call_cells r.room (hX _ _ ho) hdat hnl (codeRec_of hX hcd) hbody hbind hclo (fun x hx => ?_) (fun s₁ C => ?_) h4 h5 h1
  · rcases hkind x hx with hq | ⟨hq, eq⟩
    · exact .inl hq
    · refine .inr ⟨hq, ?_⟩
      rw [hcells, eq]; simp
  · have hcs : (callEnvC fd s.heap.objs.size f).cells = [(cx, s.heap.objs.size + 1)] := hcells _
    obtain ⟨oc, hoc, hdc⟩ := C.cell cx (s.heap.objs.size + 1) (by rw [hcs]; simp)
    have hk : ∀ a o, s.heap.get? a = some o → s₁.heap.get? a = some o := C.toInCall.keep
    obtain ⟨h', tk, e⟩ := C.toInCall.same
    have S' : St (hideAll s.heap (lm.map (·.1))) s.heap.objs.size ns' vs' ((s.heap.objs.size + 1, ACell (some cv)) :: lm) s s₁ := by
      refine ⟨⟨?_, fun a o e => hk a o (of_hideAll _ e), Nat.le_of_eq (hideAll_size _ _)⟩, ⟨fun p hp => ?_, ?_⟩, hlen, (W.hide S hlm).low, ?_, ?_, ?_⟩
      · have := C.toInCall.ns
        rw [hL] at this
        exact this
      · rcases List.mem_cons.mp hp with rfl | hp
        · refine ⟨⟨oc, hoc, ?_⟩, Nat.succ_ne_self _, ?_, ?_⟩
          · rw [hC] at hdc; exact hdc
          · exact Heap.get?_none_of_le (by rw [hideAll_size]; exact Nat.le_succ _)
          · exact beq_eq_false_iff_ne.mpr (Nat.ne_of_gt (Nat.lt_succ_of_lt S.lowS))
        · obtain ⟨⟨o, a, c⟩, _, _, lo⟩ := S.N.1 p (hlm p hp)
          exact ⟨⟨o, hk _ _ a, c⟩, Nat.ne_of_lt (Heap.lt_size a), hideAll_none _ (List.mem_map_of_mem hp), lo⟩
      · rw [List.map_cons, List.nodup_cons]
        refine ⟨fun hm => ?_, ?_⟩
        · obtain ⟨p, hp, e⟩ := List.mem_map.mp hm
          obtain ⟨⟨o, a, _⟩, _⟩ := S.N.1 p (hlm p hp)
          have := Heap.lt_size a
          rw [e] at this
          exact absurd this (by show ¬ (s.heap.objs.size + 1 < s.heap.objs.size); omega)
        · rw [List.map_append, List.nodup_append] at hnd
          exact hnd.1
      · rw [e]
      · rw [e]
      · rw [e]
    refine wpAny_mono (h _ _ _ S' (ev_of hev rfl rfl hgl hbl) hcs (r.deeper _) (fun vs'' l' s'' x => S.join hlm hrest hnd x)) (fun fl s' x => ?_) (fun _ _ x => x.elim)
    cases fl <;> exact x

/-- A CALL OF A LAMBDA, nothing lent -/
theorem call_lam {body : PySem.Expr} (ns : List Str) (ws : List Value) (z : Nat) (vs : List (Option Value)) (hvs : vs = ws.map some ++ List.replicate z none) (W : Wd w s.heap)
    (r : Rm A (k + 1)) (ho : s.heap.get? f = some fo) (hdat : fo.data = .func fd) (hbody : fd.body = .expr body) (hcd : s.heap.CodeRec fd.code fd.qualname)
    (hev : evOk fd.scope ns = true) (hnc : noCell fd.scope = true) (hgl : fd.globals = mainGlobals) (hbl : fd.builtins = builtinsNs) (hlen : ns.length = ws.length + z) {args : Args} {R : Result → Shared → Prop}
    (hbind : bindArgs fd args = pure (zipB ns vs))
    (h : ∀ L s', St s.heap L ns vs [] s s' → Ev (callEnv fd L f) L ns → Rm (A.deeper (callEnv fd L f)) k →
      wpAny (model PySem.Challenge.pw_ab5042_01 w) (A.deeper (callEnv fd L f)) (eval body (callEnv fd L f)) (fun v s'' => R (.ok (.ret v)) s'') (fun _ _ => False) s') :
    codeAny (model PySem.Challenge.pw_ab5042_01 w) A (.call (.ref f) args) R s := by
  subst hvs
  have hev' := hev
  simp only [evOk, Bool.and_eq_true, List.all_eq_true, beq_iff_eq, Bool.not_eq_true', decide_eq_true_eq] at hev'
  obtain ⟨⟨⟨⟨h1, h4⟩, h5⟩, h2⟩, h3⟩ := hev'
  refine kla_callFunE r.room ho hdat h4 h5 hbody hcd ?_
  rw [hbind]
  refine wpAny_pure (wpAny_newFunctionEnv ?_ ?_ (fun h' hns hsb => ?_) h1)
  · intro x hx
    simp only [noCell, List.all_eq_true, Bool.not_eq_true', beq_eq_false_iff_ne] at hnc
    exact hnc x hx
  · intro x hx
    obtain ⟨i, a, _⟩ := zipB_mem (x := x.1) (v := x.2) hx
    exact (h2 x.1 (List.mem_of_getElem? a)).1
  · refine ⟨W.nolimit.fresh _ hsb, ?_⟩
    have hk : ∀ a o, s.heap.get? a = some o → h'.get? a = some o := fun a o e => hsb.extBut a o (Nat.ne_of_lt (Heap.lt_size e)) (Heap.get?_push_of_some _ e)
    have S' : St s.heap s.heap.objs.size ns (ws.map some ++ List.replicate z none) [] s { s with heap := h', toks := s.toks + (zipB ns (ws.map some ++ List.replicate z none)).length } := by
      refine ⟨⟨?_, hk, Nat.le_refl _⟩, Led.nil, by simp [hlen], W.low, rfl, rfl, rfl⟩
      rw [← zipB_fm h3 hlen]; exact hns
    refine kla_codeExpr (env := callEnv fd s.heap.objs.size f) ?_
    exact wpAny_mono (h _ _ S' (ev_of hev rfl rfl hgl hbl) (r.deeper _)) (fun v s' x => x) (fun _ _ x => x.elim)

/-- the table of a code object's own codes -/
def ATab (ps : Array Value) : Assn := AObj (tabObj ps)
def ACode (qual : Str) : Assn := fun o => ∃ vs t, o.data = .fields vs ∧ vs[1]? = some (.str qual t)
theorem code_rec {h : Heap} {c : Addr} {qual : Str} {o : Obj} (e : h.get? c = some o) (a : ACode qual o) : h.CodeRec (.ref c) qual := let ⟨vs, t, h1, h2⟩ := a; ⟨c, o, vs, t, rfl, e, h1, h2⟩

theorem Wd.parts (W : Wd w h₀) : ∃ mg, h₀.Ns mainGlobals mg ∧ (∃ bm ob, mg "__builtins__" = some (.ref bm) ∧ bm ≠ builtinsNs ∧ h₀.get? bm = some ob ∧ ob.cls = .type "module" ∧ ob.dict = some builtinsNs ∧ ob.data = .plain) := by
  obtain ⟨_, _, mg, mb, T⟩ := W.T
  exact ⟨mg, T.g, T.bmain⟩

/-- a lambda made for the first time in its function's code -/
theorem s_lambda {env : Env} {P c : Addr} {ps : Array Value} {params : Arguments} {body : PySem.Expr} {scope : Scope} {pos : Pos} {clos : List (Str × Addr)} {Q : Value → Shared → Prop} (S : St h₀ L ns vs l b s) (W : Wd w h₀) (e : Ev env L ns) (i : Nat) (hi : l[i]? = some (P, ATab ps))
    (C : CodeHd h₀ c P) (hcode : env.code = .ref c) (hdef : defaultsOf params env = ([], [])) (ht : TriplesOk ps.toList) (hnf : codeAmong pos ps.toList = none) (hcl : closureFor scope env = pure clos)
    (h : ∀ f c' ctv pm s', St h₀ L ns vs ((f, AObj (kla_obj "<lambda>" (env.qual ++ "<lambda>") params body scope clos pm c' ctv)) :: (c', ACode (env.qual ++ "<lambda>")) :: l.set i (P, ATab (ps ++ #[rawInt pos.line, rawInt pos.col, .ref c']))) b s' → Q (.ref f) s') :
    wpAny (model PySem.Challenge.pw_ab5042_01 w) A (eval (.Lambda params body scope pos) env) Q E s := by
  obtain ⟨mg, hg, bm, ob, b1, b2, b3, b4, b5, b6⟩ := W.parts
  have hP := S.obj hi
  have h0 := (S.N.1 _ (List.mem_of_getElem? hi)).2.2.1
  have hgs := hg.keeps S.F.keep
  have hgP : mainGlobals ≠ P := fun q => by
    obtain ⟨o, es, ep, e, hd, _⟩ := hg
    rw [q, h0] at e; cases e
  have hbP : bm ≠ P := fun q => by
    rw [q, h0] at b3; cases b3
  have hbG : bm ≠ mainGlobals := fun q => by
    obtain ⟨o, es, ep, e, hd, _⟩ := hg
    rw [q, e] at b3; cases b3; rw [hd] at b6; cases b6
  refine kla_eval hdef (kla_makeFunction (mg := mg) hcl e.glob hgs hcode (C.keeps S.F.keep) hP ht hnf hgP ⟨bm, ob, b1, b2, hbG, hbP, S.F.keep _ _ b3, b4, b5, b6⟩ fun c' ctv h' tk hx hge hlt hrec htb => ?_)
  obtain ⟨c₂, oc, vs', t, e2, hoc, hd, hv⟩ := hrec
  cases e2
  have S1 : St h₀ L ns vs (l.set i (P, ATab (ps ++ #[rawInt pos.line, rawInt pos.col, .ref c']))) b { s with heap := h', toks := tk } := S.upd (s' := { s with heap := h', toks := tk }) hi (fun c o n e => hx c o n e) rfl rfl rfl htb rfl
  have hc0 : s.heap.get? c' = none := Heap.get?_none_of_le hge
  have S2 : St h₀ L ns vs ((c', ACode (env.qual ++ "<lambda>")) :: l.set i (P, ATab (ps ++ #[rawInt pos.line, rawInt pos.col, .ref c']))) b { s with heap := h', toks := tk } := by
    refine S1.add hoc ⟨vs', t, hd, hv⟩ ?_ ?_ ?_ ?_
    · cases q : h₀.get? c' with
      | none => rfl
      | some o => rw [S.F.keep _ _ q] at hc0; cases hc0
    · rintro rfl
      obtain ⟨o, e⟩ := S.L_get
      rw [e] at hc0; cases hc0
    · exact beq_eq_false_iff_ne.mpr (Nat.ne_of_gt (Nat.lt_of_lt_of_le S.lowS hge))
    · rw [nodup_set_same hi]
      intro hm
      obtain ⟨p, hp, e⟩ := List.mem_map.mp hm
      obtain ⟨⟨o, a, _⟩, _⟩ := S.N.1 p hp
      rw [e, hc0] at a; cases a
  exact h _ c' ctv _ _ (S2.alloc (P := AObj (kla_obj "<lambda>" (env.qual ++ "<lambda>") params body scope clos ((mg "__name__").getD .none) c' ctv)) rfl rfl)

/-- made again -/
theorem s_lambdaHit {env : Env} {P c c' : Addr} {ps : Array Value} {params : Arguments} {body : PySem.Expr} {scope : Scope} {pos : Pos} {clos : List (Str × Addr)} {Q : Value → Shared → Prop} (S : St h₀ L ns vs l b s) (W : Wd w h₀) (e : Ev env L ns) (i : Nat) (hi : l[i]? = some (P, ATab ps))
    (C : CodeHd h₀ c P) (hcode : env.code = .ref c) (hdef : defaultsOf params env = ([], [])) (ht : TriplesOk ps.toList) (hf : codeAmong pos ps.toList = some (.ref c')) (hcl : closureFor scope env = pure clos)
    (h : ∀ f ctv pm s', St h₀ L ns vs ((f, AObj (kla_obj "<lambda>" (env.qual ++ "<lambda>") params body scope clos pm c' ctv)) :: l) b s' → Q (.ref f) s') :
    wpAny (model PySem.Challenge.pw_ab5042_01 w) A (eval (.Lambda params body scope pos) env) Q E s := by
  obtain ⟨mg, hg, bm, ob, b1, b2, b3, b4, b5, b6⟩ := W.parts
  have hP := S.obj hi
  have h0 := (S.N.1 _ (List.mem_of_getElem? hi)).2.2.1
  have hgs := hg.keeps S.F.keep
  have hbP : bm ≠ P := fun q => by
    rw [q, h0] at b3; cases b3
  have hbG : bm ≠ mainGlobals := fun q => by
    obtain ⟨o, es, ep, e, hd, _⟩ := hg
    rw [q, e] at b3; cases b3; rw [hd] at b6; cases b6
  refine kla_eval hdef (kla_makeFunctionHit (mg := mg) hcl e.glob hgs hcode (C.keeps S.F.keep) hP ht hf ⟨bm, ob, b1, b2, hbG, hbP, S.F.keep _ _ b3, b4, b5, b6⟩ fun ctv h' tk hk hsz => ?_)
  have S1 : St h₀ L ns vs l b { s with heap := h', toks := tk } := S.keep hk rfl rfl rfl
  exact h _ ctv _ _ (S1.alloc (P := AObj (kla_obj "<lambda>" (env.qual ++ "<lambda>") params body scope clos ((mg "__name__").getD .none) c' ctv)) rfl rfl)
end
end Mine
end

section
set_option maxRecDepth 100000
set_option maxHeartbeats 400000
set_option linter.unusedVariables false
set_option pp.deepTerms false
set_option pp.deepTerms.threshold 4
namespace Mine
open PySem PySem.W PySem.Calls PyProof.Rows

abbrev PG : Program := PySem.Challenge.pw_ab5042_01
abbrev IK (w : World) : PySem.KeyKind PG w Int := intKind PG w
abbrev SK (w : World) : PySem.KeyKind PG w Str := strKind PG w
abbrev gFld (ag an aa ap : Addr) : List (Str × Value) := [("graph", .ref ag), ("_node", .ref an), ("_adj", .ref aa), ("_pred", .ref ap), ("_succ", .ref aa)]
/-- an edge's data -/
def AData (w : World) (c : Int) : Assn := fun o => ∃ t, ADict (SK w) [("weight", .int c t)] o
abbrev IKV := List (Int × Value)

theorem ik_is (w : World) (i : Int) (t : Tok) : (IK w).is i (.int i t) = true := intKind_is _ _ _ _

theorem add_edge_spec {w : World} {A : Around} {R : Result → Shared → Prop} {h₀ : Heap} {L : Addr} {ns : List Str} {vs : List (Option Value)} {rest : List (Addr × Assn)} {b s : Shared} {x dx ag an aa ap sa pa : Addr} {akv pkv es ps : IKV} {u v c : Int} {tu tv tc : Tok} {va : Value}
    (S : St h₀ L ns vs ([(x, AObj (instObj 1030 dx)), (dx, AFld w (gFld ag an aa ap)), (aa, ADict (IK w) akv), (ap, ADict (IK w) pkv), (sa, ADict (IK w) es), (pa, ADict (IK w) ps)] ++ rest) b s) (W : Wd w h₀) (r : Rm A 3)
    (hu : valueAt akv u = some (.ref sa)) (hv : valueAt akv v = some va) (hp : valueAt pkv v = some (.ref pa)) (hn : valueAt es v = none) (hz : es.length ≤ 1000) (hz' : ps.length ≤ 1000)
    (k : ∀ d s', St h₀ L ns vs ([(x, AObj (instObj 1030 dx)), (dx, AFld w (gFld ag an aa ap)), (aa, ADict (IK w) akv), (ap, ADict (IK w) pkv), (sa, ADict (IK w) (stored es v (.ref d))), (pa, ADict (IK w) (stored ps u (.ref d))), (d, AData w c)] ++ rest) b s' → R (.ok (.ret .none)) s') :
    codeAny (model PySem.Challenge.pw_ab5042_01 w) A (.call (.ref 935) ⟨[.ref x, .int u tu, .int v tv], [("weight", .int c tc)]⟩) R s := by
  refine' callk S W [("weight", .int c tc)] (by simp) ["self", "u_of_edge", "v_of_edge", "attr", "u", "v", "datadict"] (fun D => [.ref x, .int u tu, .int v tv, .ref D]) 3 (fun D => [some (.ref x), some (.int u tu), some (.int v tv), some (.ref D), none, none, none]) (fun D => rfl)
    [(x, AObj (instObj 1030 dx)), (dx, AFld w (gFld ag an aa ap)), (aa, ADict (IK w) akv), (ap, ADict (IK w) pkv), (sa, ADict (IK w) es), (pa, ADict (IK w) ps)] rest (fun p hp => List.mem_append_left _ hp) (fun p hp => List.mem_append_right _ hp) S.N.2 r ?k1 ?k2 ?k3 ?k4 ?k5 ?k6 ?k7 ?k8 (fun D => rfl) ?k9 ?k10 ?_
  case k1 => k_is
  case k2 => exact rfl
  case k3 => exact rfl
  case k4 => k_is
  case k5 => decide +kernel
  case k6 => decide +kernel
  case k7 => exact rfl
  case k8 => exact rfl
  case k9 => exact rfl
  case k10 => exact fun D => rfl
  clear S
  intro D L' s1' s S e r' S1 W1 back
  clear S1
  -- u, v = ..
  refine wpAny_execs_cons ?_
  refine Assign_Tuple_swapped ?_
  refine s_tuple2 ?_ rfl rfl
  refine ld_i e S 1 rfl rfl ?_
  refine ld_i e S 2 rfl rfl ?_
  with_reducible refine s_newTuple S rfl ?_
  clear S; intro p s S
  refine s_unpackItems S r'.hh (S.tup (i := 0) rfl) rfl ?_
  clear S; intro s S
  replace S := S.tl
  refine assignInOrder_cons ?_
  refine wpAny_bindName ?_
  refine st_i e S 5 rfl ?_
  clear S; intro s S
  refine assignInOrder_cons ?_
  refine wpAny_bindName ?_
  refine st_i e S 4 rfl ?_
  clear S; intro s S
  refine assignInOrder_nil ?_
  replace S : St _ L' _ [some (.ref x), some (.int u tu), some (.int v tv), some (.ref D), some (.int u tu), some (.int v tv), none] [(D, AFld w [("weight", .int c tc)]), (x, AObj (instObj 1030 dx)), (dx, AFld w (gFld ag an aa ap)), (aa, ADict (IK w) akv), (ap, ADict (IK w) pkv), (sa, ADict (IK w) es), (pa, ADict (IK w) ps)] s1' s := S
  -- if u not in self._succ
  refine wpAny_execs_cons ?_
  with_reducible refine wpAny_If ?_
  refine wpAny_isTrue_Compare1 ?_
  refine ld_i e S 4 rfl rfl ?_
  refine Attribute_any_ ?_
  refine ld_i e S 0 rfl rfl ?_
  refine s_attr none (.ref aa) S W1.X (S.inst 1 2 rfl rfl) (by k_is) (by k_is) (by k_is) rfl rfl rfl ?_
  clear S; intro s S
  refine s_dnotin S (S.dct (i := 3) rfl) (S.lo (i := 3) rfl) (ik_is w u tu) ?_
  clear S; intro s S
  with_reducible refine wpAny_truthy_bool ?_
  rw [hu]
  rw [if_neg (by simp)]
  refine wpAny_execs_nil ?_
  -- if v not in self._succ
  refine wpAny_execs_cons ?_
  with_reducible refine wpAny_If ?_
  refine wpAny_isTrue_Compare1 ?_
  refine ld_i e S 5 rfl rfl ?_
  refine Attribute_any_ ?_
  refine ld_i e S 0 rfl rfl ?_
  refine s_attr none (.ref aa) S W1.X (S.inst 1 2 rfl rfl) (by k_is) (by k_is) (by k_is) rfl rfl rfl ?_
  clear S; intro s S
  refine s_dnotin S (S.dct (i := 3) rfl) (S.lo (i := 3) rfl) (ik_is w v tv) ?_
  clear S; intro s S
  with_reducible refine wpAny_truthy_bool ?_
  rw [hv]
  rw [if_neg (by simp)]
  refine wpAny_execs_nil ?_
  -- datadict = self._adj[u].get(v, self.edge_attr_dict_factory())
  refine wpAny_execs_cons ?_
  refine wpAny_Assign_Name ?_
  refine MethodCall_ ?_
  with_reducible refine Subscript_ ?_
  refine Attribute_any_ ?_
  refine ld_i e S 0 rfl rfl ?_
  refine s_attr none (.ref aa) S W1.X (S.inst 1 2 rfl rfl) (by k_is) (by k_is) (by k_is) rfl rfl rfl ?_
  clear S; intro s S
  refine ld_i e S 4 rfl rfl ?_
  refine s_ditemT S (S.dct (i := 3) rfl) (ik_is w u tu) hu ?_
  clear S; intro s S
  refine s_dmeth PySem.F.slot_dict_get PySem.F.type_dict_get (S.dct (i := 5) rfl) ?_
  refine cw_m2 ?_
  refine ld_i e S 5 rfl rfl ?_
  refine MethodCall_ ?_
  refine ld_i e S 0 rfl rfl ?_
  refine s_factory S W1.X (S.inst 1 2 rfl rfl) (by k_is) (by k_is) (by k_is) (by decide) rfl ?_
  clear S; intro s S
  refine cw_t0 ?_
  refine s_dict0 S ?_
  clear S; intro d s S
  refine s_dget2 S (S.dct (i := 6) rfl) (S.lo (i := 6) rfl) (ik_is w v tv) none hn ?_
  clear S; intro s S
  refine st_i e S 6 rfl ?_
  clear S; intro s S
  replace S : St _ L' _ [some (.ref x), some (.int u tu), some (.int v tv), some (.ref D), some (.int u tu), some (.int v tv), some (.ref d)] [(d, AEmpty), (D, AFld w [("weight", .int c tc)]), (x, AObj (instObj 1030 dx)), (dx, AFld w (gFld ag an aa ap)), (aa, ADict (IK w) akv), (ap, ADict (IK w) pkv), (sa, ADict (IK w) es), (pa, ADict (IK w) ps)] s1' s := S
  -- datadict.update(attr)
  refine wpAny_execs_cons ?_
  refine wpAny_Expr ?_
  refine MethodCall_ ?_
  refine ld_i e S 6 rfl rfl ?_
  replace S := S.mono (i := 0) rfl (empty_dict (SK w))
  replace S := S.mono (i := 1) rfl (fld_dict PG (by simp))
  refine s_dmeth PySem.F.slot_dict_update PySem.F.type_dict_update (S.dct (i := 0) rfl) ?_
  refine cw_m1 ?_
  refine ld_i e S 3 rfl rfl ?_
  refine s_dupdate S 0 rfl (S.ne 0 1 rfl rfl rfl) (S.dct (i := 1) rfl) (S.lo (i := 1) rfl) (by simp) ?_
  clear S; intro s S
  replace S : St _ L' _ _ [(d, ADict (SK w) [("weight", .int c tc)]), (D, ADict (SK w) [("weight", .int c tc)]), (x, AObj (instObj 1030 dx)), (dx, AFld w (gFld ag an aa ap)), (aa, ADict (IK w) akv), (ap, ADict (IK w) pkv), (sa, ADict (IK w) es), (pa, ADict (IK w) ps)] s1' s := S
  -- self._succ[u][v] = datadict
  refine wpAny_execs_cons ?_
  refine wpAny_Assign_Subscript ?_
  refine ld_i e S 6 rfl rfl ?_
  with_reducible refine Subscript_ ?_
  refine Attribute_any_ ?_
  refine ld_i e S 0 rfl rfl ?_
  refine s_attr none (.ref aa) S W1.X (S.inst 2 3 rfl rfl) (by k_is) (by k_is) (by k_is) rfl rfl rfl ?_
  clear S; intro s S
  refine ld_i e S 4 rfl rfl ?_
  refine s_ditemT S (S.dct (i := 4) rfl) (ik_is w u tu) hu ?_
  clear S; intro s S
  refine ld_i e S 5 rfl rfl ?_
  refine s_dset S 6 rfl (ik_is w v tv) (by omega) ?_
  clear S; intro s S
  -- self._pred[v][u] = datadict
  refine wpAny_execs_cons ?_
  refine wpAny_Assign_Subscript ?_
  refine ld_i e S 6 rfl rfl ?_
  with_reducible refine Subscript_ ?_
  refine Attribute_any_ ?_
  refine ld_i e S 0 rfl rfl ?_
  refine s_attr none (.ref ap) S W1.X (S.inst 2 3 rfl rfl) (by k_is) (by k_is) (by k_is) rfl rfl rfl ?_
  clear S; intro s S
  refine ld_i e S 5 rfl rfl ?_
  refine s_ditemT S (S.dct (i := 5) rfl) (ik_is w v tv) hp ?_
  clear S; intro s S
  refine ld_i e S 4 rfl rfl ?_
  refine s_dset S 7 rfl (ik_is w u tu) (by omega) ?_
  clear S; intro s S
  refine wpAny_execs_nil ?_
  refine k d s ?_
  replace S : St _ L' _ _ [(d, ADict (SK w) [("weight", .int c tc)]), (D, ADict (SK w) [("weight", .int c tc)]), (x, AObj (instObj 1030 dx)), (dx, AFld w (gFld ag an aa ap)), (aa, ADict (IK w) akv), (ap, ADict (IK w) pkv), (sa, ADict (IK w) (stored es v (.ref d))), (pa, ADict (IK w) (stored ps u (.ref d)))] s1' s := S
  replace S := S.mono (i := 0) (P' := AData w c) rfl (fun o h => ⟨tc, h⟩)
  replace S := back _ _ _ S
  exact S.pick [2, 3, 4, 5, 6, 7, 0] rfl
end Mine
end

section
set_option maxRecDepth 100000
set_option maxHeartbeats 400000
set_option linter.unusedVariables false
set_option pp.deepTerms false
set_option pp.deepTerms.threshold 4
namespace Mine
open PySem PySem.W PySem.Calls PyProof.Rows

section
variable {prog : Program} {w : World} {A : Around} {E : Value → Shared → Prop} {s : Shared} {env : Env}
/-- try, where nothing is raised -/
theorem s_try {body orelse : List Stmt} {e₀ : ExceptHandler} {hs : List ExceptHandler} {pos : Pos} {Q : Flow → Shared → Prop}
    (h : wpAny (model prog w) A (execs body env) (fun f s₁ => match f with | .next => wpAny (model prog w) A (execs orelse env) Q E s₁ | f => Q f s₁) (fun _ _ => False) s) :
    wpAny (model prog w) A (exec (.Try body (e₀ :: hs) orelse [] pos) env) Q E s :=
  wpAny_Try_except (wpAny_mono h (fun _ _ x => x) fun _ _ x => x.elim)
end

/-- what is kept back at a call stands in the callee's base -/
theorem St.held {h₀ : Heap} {L : Addr} {ns : List Str} {vs : List (Option Value)} {b s : Shared} {lm rest : List (Addr × Assn)} (S : St h₀ L ns vs (lm ++ rest) b s) {a : Addr} {P : Assn} (hm : (a, P) ∈ rest) : ∃ o, (hideAll s.heap (lm.map (·.1))).get? a = some o ∧ P o := by
  obtain ⟨o, e, p⟩ := S.mem (List.mem_append_right _ hm)
  have hn := S.N.2
  rw [List.map_append, List.nodup_append] at hn
  exact ⟨o, hide_get e fun h => hn.2.2 _ h _ (List.mem_map_of_mem (f := (·.1)) hm) rfl, p⟩

/-- a node: its key, its data dict, its dicts of successors and of predecessors -/
structure NRec where
  k : Int
  na : Addr
  sa : Addr
  pa : Addr
def nodeL (w : World) (rs : List NRec) : List (Addr × Assn) := rs.flatMap fun r => [(r.na, ADict (SK w) []), (r.sa, ADict (IK w) []), (r.pa, ADict (IK w) [])]
def naKv (rs : List NRec) : IKV := rs.map fun r => (r.k, .ref r.na)
def saKv (rs : List NRec) : IKV := rs.map fun r => (r.k, .ref r.sa)
def paKv (rs : List NRec) : IKV := rs.map fun r => (r.k, .ref r.pa)
theorem kv_none {f : NRec → Value} {rs : List NRec} {k : Int} (h : k ∉ rs.map (·.k)) : valueAt (rs.map fun r => (r.k, f r)) k = none :=
  valueAt_none_of_not_mem (by simpa [List.map_map] using h)
theorem kv_some {f : NRec → Value} : ∀ {rs : List NRec} {r : NRec}, (rs.map (·.k)).Nodup → r ∈ rs → valueAt (rs.map fun r => (r.k, f r)) r.k = some (f r)
  | x :: rs, r, hn, hm => by
    unfold valueAt
    rw [List.map_cons, List.find?_cons]
    by_cases e : x.k = r.k
    · have hx : x = r := by
        rcases List.mem_cons.mp hm with h | h
        · exact h.symm
        · exact absurd (List.mem_map_of_mem (f := (·.k)) h) (by rw [← e]; exact (List.nodup_cons.mp hn).1)
      subst hx
      simp
    · simp only [e, decide_false]
      have : r ∈ rs := by
        rcases List.mem_cons.mp hm with h | h
        · exact absurd (congrArg NRec.k h).symm e
        · exact h
      exact kv_some (List.nodup_cons.mp hn).2 this

theorem nodes_spec {w : World} {A : Around} {R : Result → Shared → Prop} {h₀ : Heap} {L : Addr} {ns : List Str} {vs : List (Option Value)} {rest : List (Addr × Assn)} {b s : Shared} {x dx ag an aa ap nl : Addr} {xs : List Value} {ks : List Int}
    (S : St h₀ L ns vs (newG w x dx ag an aa ap ++ rest) b s) (W : Wd w h₀) (r : Rm A 3) (hl : (nl, AList xs) ∈ rest) (hI : IntsAre xs ks) (hn : ks.Nodup) (hz : ks.length ≤ 100)
    (k : ∀ rs s', rs.map (·.k) = ks → St h₀ L ns vs ([(x, AObj (instObj 1030 dx)), (dx, AFld w (gFld ag an aa ap)), (an, ADict (IK w) (naKv rs)), (aa, ADict (IK w) (saKv rs)), (ap, ADict (IK w) (paKv rs))] ++ nodeL w rs ++ rest) b s' → R (.ok (.ret .none)) s') :
    codeAny (model PySem.Challenge.pw_ab5042_01 w) A (.call (.ref 921) ⟨[.ref x, .ref nl], []⟩) R s := by
  refine' callk S W [] List.nodup_nil ["self", "nodes_for_adding", "attr", "n", "newnode", "newdict", "ndict"] (fun D => [.ref x, .ref nl, .ref D]) 4 (fun D => [some (.ref x), some (.ref nl), some (.ref D), none, none, none, none]) (fun D => rfl)
    (newG w x dx ag an aa ap) rest (fun p hp => List.mem_append_left _ hp) (fun p hp => List.mem_append_right _ hp) S.N.2 r ?k1 ?k2 ?k3 ?k4 ?k5 ?k6 ?k7 ?k8 (fun D => rfl) ?k9 ?k10 ?_
  case k1 => k_is
  case k2 => exact rfl
  case k3 => exact rfl
  case k4 => k_is
  case k5 => decide +kernel
  case k6 => decide +kernel
  case k7 => exact rfl
  case k8 => exact rfl
  case k9 => exact rfl
  case k10 => exact fun D => rfl
  have hlen : xs.length = ks.length := hI.length
  intro D L' s1' s S' e r' S1 W1 back
  have hl1 : (hideAll s1'.heap (D :: (newG w x dx ag an aa ap).map (·.1))).IsList nl xs.toArray := by
    obtain ⟨o, h1, h2, h3⟩ := St.held (lm := (D, AFld w []) :: newG w x dx ag an aa ap) S1 hl
    exact ⟨o, h1, h2, h3⟩
  clear S S1
  refine wpAny_execs_cons ?_
  refine wpAny_For ?_
  refine ld_i e S' 1 rfl rfl ?_
  replace S' := S'.mono (i := 0) rfl (fld_dict PG List.nodup_nil)
  replace S' := S'.mono (i := 3) rfl (empty_dict (IK w))
  replace S' := S'.mono (i := 4) rfl (empty_dict (IK w))
  replace S' := S'.mono (i := 5) rfl (empty_dict (IK w))
  refine s_iterList (xs := xs) (fun i vs l => ∃ rs : List NRec, ∃ v3 v4 v5 v6, rs.map (·.k) = ks.take i ∧ vs = [some (.ref x), some (.ref nl), some (.ref D), v3, v4, v5, v6] ∧
    l = [(D, ADict (SK w) []), (x, AObj (instObj 1030 dx)), (dx, AFld w (gFld ag an aa ap)), (an, ADict (IK w) (naKv rs)), (aa, ADict (IK w) (saKv rs)), (ap, ADict (IK w) (paKv rs))] ++ nodeL w rs)
    S' r'.hh ⟨[], none, none, none, none, rfl, rfl, rfl⟩ (fun i vs l s _ S => hl1.at fun o e => S.F.keep _ o e) ?_ ?_
  · rintro i v it It vs l s hv ⟨rs, v3, v4, v5, v6, hrs, rfl, rfl⟩ S
    clear S'
    have hi : i < ks.length := by rw [← hlen]; exact (List.getElem?_eq_some_iff.mp hv).1
    obtain ⟨t, hx⟩ := hI.get i ks[i] (by simp [hi])
    rw [hv] at hx
    cases hx
    generalize hkk : ks[i] = kk at S ⊢
    have hfresh : kk ∉ rs.map (·.k) := by
      rw [hrs, ← hkk]
      intro hm
      obtain ⟨j, hj, e⟩ := List.mem_iff_getElem.mp hm
      rw [List.length_take] at hj
      rw [List.getElem_take] at e
      have := (List.getElem_inj hn).mp e
      omega
    have hrl : rs.length ≤ ks.length := by
      have := congrArg List.length hrs
      simp at this; omega
    refine wpAny_assign_Name ?_
    refine st_i e S 3 rfl ?_
    clear S; intro s S
    refine wpAny_execs_cons ?_
    refine s_try ?_
    refine wpAny_execs_cons ?_
    refine wpAny_Assign_Name ?_
    refine wpAny_Compare1 ?_
    refine ld_i e S 3 rfl rfl ?_
    refine Attribute_any_ ?_
    refine ld_i e S 0 rfl rfl ?_
    refine s_attr none (.ref an) S W1.X (S.inst 2 3 rfl rfl) (by k_is) (by k_is) (by k_is) rfl rfl rfl ?_
    clear S; intro s S
    refine s_dnotin S (S.dct (i := 4) rfl) (S.lo (i := 4) rfl) (ik_is w kk t) ?_
    clear S; intro s S
    rw [show valueAt (naKv rs) kk = none from kv_none hfresh]
    refine st_i e S 4 rfl ?_
    clear S; intro s S
    refine wpAny_execs_cons ?_
    refine wpAny_Assign_Name ?_
    refine ld_i e S 2 rfl rfl ?_
    refine st_i e S 5 rfl ?_
    clear S; intro s S
    refine wpAny_execs_nil ?_
    refine wpAny_execs_nil ?_
    -- if newnode
    refine wpAny_execs_cons ?_
    with_reducible refine wpAny_If ?_
    refine isTrue_plain ?_
    refine ld_i e S 4 rfl rfl ?_
    with_reducible refine wpAny_truthy_bool ?_
    rw [if_pos (by simp)]
    refine wpAny_execs_cons ?_
    with_reducible refine wpAny_If ?_
    refine wpAny_isTrue_Compare1 ?_
    refine ld_i e S 3 rfl rfl ?_
    refine wpAny_Constant_none ?_
    refine wpAny_is_other (by rfl) (fun h => nomatch h) ?_
    with_reducible refine wpAny_truthy_bool ?_
    rw [if_neg (by decide)]
    refine wpAny_execs_nil ?_
    -- self._succ[n] = ..
    refine wpAny_execs_cons ?_
    refine wpAny_Assign_Subscript ?_
    refine MethodCall_ ?_
    refine ld_i e S 0 rfl rfl ?_
    refine s_factory S W1.X (S.inst 2 3 rfl rfl) (by k_is) (by k_is) (by k_is) (by decide) rfl ?_
    clear S; intro s S
    refine cw_t0 ?_
    refine s_dict0 S ?_
    clear S; intro sa s S
    refine Attribute_any_ ?_
    refine ld_i e S 0 rfl rfl ?_
    refine s_attr none (.ref aa) S W1.X (S.inst 3 4 rfl rfl) (by k_is) (by k_is) (by k_is) rfl rfl rfl ?_
    clear S; intro s S
    refine ld_i e S 3 rfl rfl ?_
    refine s_dset S 6 rfl (ik_is w kk t) (by simp [saKv]; omega) ?_
    clear S; intro s S
    -- self._pred[n] = ..
    refine wpAny_execs_cons ?_
    refine wpAny_Assign_Subscript ?_
    refine MethodCall_ ?_
    refine ld_i e S 0 rfl rfl ?_
    refine s_factory S W1.X (S.inst 3 4 rfl rfl) (by k_is) (by k_is) (by k_is) (by decide) rfl ?_
    clear S; intro s S
    refine cw_t0 ?_
    refine s_dict0 S ?_
    clear S; intro pa s S
    refine Attribute_any_ ?_
    refine ld_i e S 0 rfl rfl ?_
    refine s_attr none (.ref ap) S W1.X (S.inst 4 5 rfl rfl) (by k_is) (by k_is) (by k_is) rfl rfl rfl ?_
    clear S; intro s S
    refine ld_i e S 3 rfl rfl ?_
    refine s_dset S 8 rfl (ik_is w kk t) (by simp [paKv]; omega) ?_
    clear S; intro s S
    -- self._node[n] = ..
    refine wpAny_execs_cons ?_
    refine wpAny_Assign_Subscript ?_
    refine MethodCall_ ?_
    refine ld_i e S 0 rfl rfl ?_
    refine s_factory S W1.X (S.inst 4 5 rfl rfl) (by k_is) (by k_is) (by k_is) (by decide) rfl ?_
    clear S; intro s S
    refine cw_t0 ?_
    refine s_dict0 S ?_
    clear S; intro na s S
    refine Attribute_any_ ?_
    refine ld_i e S 0 rfl rfl ?_
    refine s_attr none (.ref an) S W1.X (S.inst 5 6 rfl rfl) (by k_is) (by k_is) (by k_is) rfl rfl rfl ?_
    clear S; intro s S
    refine ld_i e S 3 rfl rfl ?_
    refine s_dset S 7 rfl (ik_is w kk t) (by simp [naKv]; omega) ?_
    clear S; intro s S
    refine wpAny_execs_nil ?_
    rw [stored_absent (show valueAt (naKv rs) kk = none from kv_none hfresh), stored_absent (show valueAt (saKv rs) kk = none from kv_none hfresh), stored_absent (show valueAt (paKv rs) kk = none from kv_none hfresh)] at S
    have en : naKv rs ++ [(kk, .ref na)] = naKv (rs ++ [⟨kk, na, sa, pa⟩]) := by simp [naKv]
    have es : saKv rs ++ [(kk, .ref sa)] = saKv (rs ++ [⟨kk, na, sa, pa⟩]) := by simp [saKv]
    have ep : paKv rs ++ [(kk, .ref pa)] = paKv (rs ++ [⟨kk, na, sa, pa⟩]) := by simp [paKv]
    have hn' : (rs ++ [(⟨kk, na, sa, pa⟩ : NRec)]).map (·.k) = ks.take (i + 1) := by
      rw [List.map_append, hrs, List.take_add_one, List.getElem?_eq_getElem hi, hkk]; rfl
    have hnd : ((rs ++ [(⟨kk, na, sa, pa⟩ : NRec)]).map (·.k)).Nodup := by rw [hn']; exact hn.sublist (List.take_sublist _ _)
    rw [en, es, ep] at S
    replace S : St _ L' _ [some (.ref x), some (.ref nl), some (.ref D), some (.int kk t), some (.bool true), some (.ref D), v6] ([(na, AEmpty), (pa, AEmpty), (sa, AEmpty), (it, It), (D, ADict (SK w) []), (x, AObj (instObj 1030 dx)), (dx, AFld w (gFld ag an aa ap)), (an, ADict (IK w) (naKv (rs ++ [⟨kk, na, sa, pa⟩]))), (aa, ADict (IK w) (saKv (rs ++ [⟨kk, na, sa, pa⟩]))), (ap, ADict (IK w) (paKv (rs ++ [⟨kk, na, sa, pa⟩])))] ++ nodeL w rs) s1' s := S
    replace S := S.mono (i := 0) rfl (empty_dict (SK w))
    replace S := S.mono (i := 1) rfl (empty_dict (IK w))
    replace S := S.mono (i := 2) rfl (empty_dict (IK w))
    -- self._node[n].update(newdict)
    refine wpAny_execs_cons ?_
    refine wpAny_Expr ?_
    refine MethodCall_ ?_
    with_reducible refine Subscript_ ?_
    refine Attribute_any_ ?_
    refine ld_i e S 0 rfl rfl ?_
    refine s_attr none (.ref an) S W1.X (S.inst 5 6 rfl rfl) (by k_is) (by k_is) (by k_is) rfl rfl rfl ?_
    clear S; intro s S
    refine ld_i e S 3 rfl rfl ?_
    refine s_ditemT S (S.dct (i := 7) rfl) (ik_is w kk t) (kv_some (r := ⟨kk, na, sa, pa⟩) hnd (by simp)) ?_
    clear S; intro s S
    refine s_dmeth PySem.F.slot_dict_update PySem.F.type_dict_update (S.dct (i := 0) rfl) ?_
    refine cw_m1 ?_
    refine ld_i e S 5 rfl rfl ?_
    refine s_dupdate S 0 rfl (S.ne 0 4 rfl rfl rfl) (S.dct (i := 4) rfl) (S.lo (i := 4) rfl) (by simp) ?_
    clear S; intro s S
    refine wpAny_execs_nil ?_
    replace S : St _ L' _ [some (.ref x), some (.ref nl), some (.ref D), some (.int kk t), some (.bool true), some (.ref D), v6] ([(na, ADict (SK w) []), (pa, ADict (IK w) []), (sa, ADict (IK w) []), (it, It), (D, ADict (SK w) []), (x, AObj (instObj 1030 dx)), (dx, AFld w (gFld ag an aa ap)), (an, ADict (IK w) (naKv (rs ++ [⟨kk, na, sa, pa⟩]))), (aa, ADict (IK w) (saKv (rs ++ [⟨kk, na, sa, pa⟩]))), (ap, ADict (IK w) (paKv (rs ++ [⟨kk, na, sa, pa⟩])))] ++ nodeL w rs) s1' s := S
    refine ⟨[some (.ref x), some (.ref nl), some (.ref D), some (.int kk t), some (.bool true), some (.ref D), v6], [(D, ADict (SK w) []), (x, AObj (instObj 1030 dx)), (dx, AFld w (gFld ag an aa ap)), (an, ADict (IK w) (naKv (rs ++ [⟨kk, na, sa, pa⟩]))), (aa, ADict (IK w) (saKv (rs ++ [⟨kk, na, sa, pa⟩]))), (ap, ADict (IK w) (paKv (rs ++ [⟨kk, na, sa, pa⟩])))] ++ nodeL w (rs ++ [⟨kk, na, sa, pa⟩]), ⟨rs ++ [⟨kk, na, sa, pa⟩], _, _, _, _, hn', rfl, rfl⟩, ?_⟩
    have hN : nodeL w (rs ++ [⟨kk, na, sa, pa⟩]) = nodeL w rs ++ [(na, ADict (SK w) []), (sa, ADict (IK w) []), (pa, ADict (IK w) [])] := by simp [nodeL]
    rw [hN]
    refine S.perm ?_
    refine List.Perm.trans (l₂ := [(na, ADict (SK w) []), (pa, ADict (IK w) []), (sa, ADict (IK w) [])] ++ ([(it, It), (D, ADict (SK w) []), (x, AObj (instObj 1030 dx)), (dx, AFld w (gFld ag an aa ap)), (an, ADict (IK w) (naKv (rs ++ [⟨kk, na, sa, pa⟩]))), (aa, ADict (IK w) (saKv (rs ++ [⟨kk, na, sa, pa⟩]))), (ap, ADict (IK w) (paKv (rs ++ [⟨kk, na, sa, pa⟩])))] ++ nodeL w rs)) ?_ (.of_eq (by simp))
    refine List.Perm.trans ?_ (List.Perm.append_right _ (List.Perm.cons _ (List.Perm.swap _ _ _)))
    refine List.Perm.trans ?_ List.perm_append_comm
    exact .of_eq (by simp)
  · rintro vs l s ⟨rs, v3, v4, v5, v6, hrs, rfl, rfl⟩ S
    refine wpAny_execs_nil ?_
    refine k rs s (by rw [hrs, hlen, List.take_length]) ?_
    have S := back _ _ _ S
    exact S.tl
end Mine
end

section
set_option maxRecDepth 100000
set_option maxHeartbeats 400000
set_option linter.unusedVariables false
set_option pp.deepTerms false
set_option pp.deepTerms.threshold 4
namespace Mine
open PySem PySem.W PySem.Calls PyProof.Rows

section
variable {w : World} {A : Around} {E : Value → Shared → Prop} {h₀ : Heap} {L : Addr} {ns : List Str} {vs : List (Option Value)} {l : List (Addr × Assn)} {b s : Shared}
theorem St.after (S : St h₀ L ns vs l b s) {s' : Shared} (K : Kept s s') : St h₀ L ns vs l b s' := S.keep K.k K.g K.d K.o
theorem St.under (S : St h₀ L ns vs l b s) {lm : List (Addr × Assn)} (hlm : ∀ p ∈ lm, p ∈ l) : ∀ a o, h₀.get? a = some o → (hideAll s.heap (lm.map (·.1))).get? a = some o := fun a o e =>
  hide_get (S.F.keep a o e) fun h => by
    obtain ⟨p, hp, q⟩ := List.mem_map.mp h
    have := (S.N.1 p (hlm p hp)).2.2.1
    rw [q, e] at this; cases this

theorem callable_kind : builtinKind "callable" = none := by decide +kernel
theorem callable_plain : plainId "callable" = true := by decide +kernel
theorem callable_entry : entryFor table "callable" = some Builtin.«callable» := entryFor_of_tree (by kernel_rfl)
theorem callable_args (a : Value) : argsOk "callable" ⟨[a], []⟩ := by unfold argsOk; kernel_rfl
theorem str_no_call : typeLookup (.type "str") "__call__" = pure none := by rw [typeLookup_type, builtinLookup_eq_fast]; kernel_rfl
theorem str_type (x : Str) (t : Tok) : typeOf (.str x t) = pure (.type "str") := rfl
theorem call_callable {x : Str} {t : Tok} {Q : Value → Shared → Prop} (h : Q (.bool false) s) : wpAny (model PG w) A (call (.builtin "callable") [.str x t]) Q E s := by
  refine Calls.call_function_entry callable_kind callable_plain callable_entry (callable_args _) ?_
  obtain ⟨hp, g, d, tk, os⟩ := s
  have f1 := str_no_call
  have f2 := str_type x t
  wp_walk
  exact ⟨_, rfl, h⟩
end

theorem multi_spec {w : World} {A : Around} {s : Shared} {R : Result → Shared → Prop} {x : Addr} (W : Wd w s.heap) (r : Rm A 2) (k : ∀ s', Kept s s' → R (.ok (.ret (.bool false))) s') :
    codeAny (model PySem.Challenge.pw_ab5042_01 w) A (.call (.ref 1013) ⟨[.ref x], []⟩) R s := by
  refine' call_fn0 ["self"] [.ref x] 0 [some (.ref x)] rfl W r ?k1 ?k2 ?k3 ?k4 ?k5 ?k6 ?k7 ?k8 rfl ?k9 ?_
  case k1 => k_is
  case k2 => exact rfl
  case k3 => exact rfl
  case k4 => k_is
  case k5 => decide +kernel
  case k6 => decide +kernel
  case k7 => exact rfl
  case k8 => exact rfl
  case k9 => exact BindsTo.of_eq rfl
  intro L s' S e r'
  refine wpAny_execs_cons (wpAny_Return_some ?_)
  refine wpAny_Constant_bool ?_
  exact k s' (S.kept rfl)

theorem dict_keep {prog : Program} {w : World} {K : Type} [DecidableEq K] {knd : PySem.KeyKind prog w K} {kvs : List (K × Value)} {h h' : Heap} {a : Addr} (hd : h.DictOf knd a kvs) (k : ∀ a o, h.get? a = some o → h'.get? a = some o) : h'.DictOf knd a kvs := by
  obtain ⟨o, e, x⟩ := Heap.dictOf_iff.mp hd
  exact Heap.dictOf_iff.mpr ⟨o, k _ _ e, x⟩
theorem code128 {w : World} {h : Heap} (W : Wd w h) : CodeHd h 128 124 := by
  exact ⟨_, _, _, _, _, _, _, _, _, W.X _ _ (by k_is), rfl, rfl, rfl, rfl, rfl, rfl, rfl, rfl, by decide⟩
section
variable {prog : Program} {w : World} {A : Around} {E : Value → Shared → Prop} {h₀ : Heap} {L : Addr} {ns : List Str} {vs : List (Option Value)} {l : List (Addr × Assn)} {b s : Shared} {env : Env}
/-- a free name of a base heap -/
theorem ld_f {x : Str} {pos : Pos} {v : Value} {c : Addr} {Q : Value → Shared → Prop} (S : St h₀ L ns vs l b s) (hi : h₀.IsCell c (some v)) (hk : env.scope.kind = .function) (hx : env.kindOf x = some .free) (hc : env.cells.lookup x = some c) (h : Q v s)
    (hd : (x == ("__debug__" : Str)) = false := by decide) (hn : (x == ("__classdict__" : Str)) = false := by decide) : wpAny (model prog w) A (eval (.Name x pos) env) Q E s := by
  obtain ⟨o, ho, hp⟩ := hi
  exact wpAny_Name (wpAny_loadName_free hk hx hc ⟨o, S.F.keep _ _ ho, hp⟩ h hn) hd
end
/-- what a lambda of _weight_function does -/
def LamOK (w : World) (h : Heap) (f : Addr) : Prop := ∀ (s : Shared) (A : Around) (R : Result → Shared → Prop) (x y : Value) (d : Addr) (c : Int) (t : Tok), (∀ a o, h.get? a = some o → s.heap.get? a = some o) → Wd w s.heap → Rm A 3 → (d == sysModules) = false → s.heap.DictOf (SK w) d [("weight", .int c t)] →
  (∀ s', Kept s s' → R (.ok (.ret (.int c t))) s') → codeAny (model PySem.Challenge.pw_ab5042_01 w) A (.call (.ref f) ⟨[x, y, .ref d], []⟩) R s
theorem LamOK.keep {w : World} {h h' : Heap} {f : Addr} (x : LamOK w h f) (k : ∀ a o, h.get? a = some o → h'.get? a = some o) : LamOK w h' f :=
  fun s A R a b d c t hk => x s A R a b d c t fun a o e => hk a o (k a o e)

def LamAt (w : World) (h : Heap) (f : Addr) : Prop := FnAt f h ∧ LamOK w h f
theorem LamAt.keep {w : World} {h h' : Heap} {f : Addr} (x : LamAt w h f) (k : ∀ a o, h.get? a = some o → h'.get? a = some o) : LamAt w h' f := by
  obtain ⟨⟨oc, od, fd, sl, e⟩, y⟩ := x
  exact ⟨⟨oc, od, fd, sl, k _ _ e⟩, y.keep k⟩
/-- the code table of _weight_function: as at the start, or with the lambda's code -/
def tabW : Option Addr → List (Addr × Assn)
  | none => [(124, ATab #[])]
  | some c' => [(124, ATab #[rawInt 24, rawInt 11, .ref c']), (c', ACode "_weight_function.<locals>.<lambda>")]

theorem weight_spec {w : World} {A : Around} {R : Result → Shared → Prop} {h₀ : Heap} {L : Addr} {ns : List Str} {vs : List (Option Value)} {rest : List (Addr × Assn)} {b s : Shared} {x dx : Addr} {fs : List (Str × Value)} {t : Tok} (T : Option Addr)
    (S : St h₀ L ns vs (tabW T ++ rest) b s) (W : Wd w h₀) (r : Rm A 4) (I : Inst w (hideAll s.heap ((tabW T).map (·.1))) x 1030 dx fs) (hf : fGet "is_multigraph" fs = none)
    (k : ∀ f c' extra s', St h₀ L ns vs (extra ++ tabW (some c') ++ rest) b s' → (∀ h, (∀ p ∈ extra ++ tabW (some c'), ∃ o, h.get? p.1 = some o ∧ p.2 o) → LamAt w h f) → R (.ok (.ret (.ref f))) s') :
    codeAny (model PySem.Challenge.pw_ab5042_01 w) A (.call (.ref 129) ⟨[.ref x, .str "weight" t], []⟩) R s := by
  refine' callc1 S W ["G"] [some (.ref x)] "weight" (.str "weight" t) (tabW T) rest (fun p hp => List.mem_append_left _ hp) (fun p hp => List.mem_append_right _ hp) S.N.2 r ?k1 ?k2 ?k3 ?k4 ?k5 ?k6 ?k7 rfl [("G", .ref x), ("weight", .str "weight" t)] ?k8 ?k9 ?k10 ?k11 ?k12 ?k13 ?_
  case k1 => k_is
  case k2 => exact rfl
  case k3 => exact rfl
  case k4 => k_is
  case k5 => decide +kernel
  case k6 => exact rfl
  case k7 => exact rfl
  case k8 => exact rfl
  case k9 => exact rfl
  case k10 => exact fun n => rfl
  case k11 =>
    intro y hy
    rcases List.mem_cons.mp hy with rfl | hy
    · exact .inl rfl
    · rw [List.mem_singleton.mp hy]; exact .inr ⟨rfl, rfl⟩
  case k12 => intro L'; rfl
  case k13 => intro L'; rfl
  intro L' c s' S' e hcells r' back
  have W1 := W.hide S (lm := tabW T) (fun p hp => List.mem_append_left _ hp)
  clear S
  refine wpAny_execs_cons ?_
  with_reducible refine wpAny_If ?_
  refine isTrue_plain ?_
  refine Call_ ?_
  refine ld_b e W1 S' (.builtin "callable") (by k_is) rfl (by boot_by_name) (by decide) ?_
  refine cw_b1 ?_
  refine ld_c S' 0 rfl rfl rfl (by rw [hcells]; rfl) ?_
  refine call_callable ?_
  with_reducible refine wpAny_truthy_bool ?_
  rw [if_neg (by decide)]
  refine wpAny_execs_nil ?_
  refine wpAny_execs_cons ?_
  with_reducible refine wpAny_If ?_
  refine isTrue_plain ?_
  refine MethodCall_ ?_
  refine ld_i e S' 0 rfl rfl ?_
  refine s_meth 1013 S' W1.X (I.keep S'.F.keep) (by k_is) (by k_is) (by k_is) hf ?_
  refine callWith_K0 (W1.at S').X (by k_is) ?_
  refine wpAny_call ?_
  refine multi_spec (W1.at S') (r'.le (by decide)) ?_
  intro s2 K
  replace S' := S'.after K
  clear K
  show wpAny _ _ (truthy (.bool false)) _ _ _
  with_reducible refine wpAny_truthy_bool ?_
  rw [if_neg (by decide)]
  refine wpAny_execs_nil ?_
  refine wpAny_execs_cons (wpAny_Return_some ?_)
  have hc : c = L' + 1 := by
    have : [((Str.ofString "weight" : Str), L' + 1)] = [(Str.ofString "weight", c)] := hcells
    simpa using this.symm
  subst hc
  have C : CodeHd (hideAll s.heap ((tabW T).map (·.1))) 128 124 := code128 W1
  clear W I
  cases T
  case' none =>
    refine' s_lambda S' W1 e 1 rfl C rfl rfl ?l1 rfl ?l2 ?_
    case l1 => exact trivial
    case l2 => exact rfl
    intro f c' ctv pm s' S'
    refine k f c' [(f, _), (L' + 1, ACell (some (.str "weight" t)))] s' (back _ _ _ (St.pick (pre := [_, _, _, _]) (rest := []) S' [0, 2, 3, 1] rfl)) ?_
  case' some c₀ =>
    refine' s_lambdaHit (c' := c₀) S' W1 e 1 rfl C rfl rfl ?l1 rfl ?l2 ?_
    case l1 => exact trivial
    case l2 => exact rfl
    intro f ctv pm s' S'
    refine k f c₀ [(f, _), (L' + 1, ACell (some (.str "weight" t)))] s' (back _ _ _ S') ?_
  all_goals
    clear S' back k e r' hcells W1 r C
    intro h hl
    obtain ⟨of, hof, ef⟩ := hl (f, _) (List.mem_cons_self)
    cases ef
    obtain ⟨oc, hoc, ec⟩ := hl (L' + 1, ACell (some (.str "weight" t))) (List.mem_cons_of_mem _ List.mem_cons_self)
    obtain ⟨od, hod, ed⟩ := hl (_, ACode "_weight_function.<locals>.<lambda>") (List.mem_cons_of_mem _ (List.mem_cons_of_mem _ (List.mem_cons_of_mem _ List.mem_cons_self)))
    refine ⟨⟨_, _, _, _, hof⟩, ?_⟩
    intro s A R u v d cc tt hk W r lo hd k
    refine' call_lam ["u", "v", "data"] [u, v, .ref d] 0 [some u, some v, some (.ref d)] rfl W r (hk _ _ hof) ?k2 ?k3 ?k4 ?k5 ?k6 ?k7 ?k8 rfl ?k9 ?_
    case k2 => exact rfl
    case k3 => exact rfl
    case k4 => exact code_rec (hk _ _ hod) ed
    case k5 => exact rfl
    case k6 => exact rfl
    case k7 => exact rfl
    case k8 => exact rfl
    case k9 => exact rfl
    intro L s' S e r'
    refine MethodCall_ ?_
    refine ld_i e S 2 rfl rfl ?_
    have hd' := dict_keep hd S.F.keep
    refine s_dmeth PySem.F.slot_dict_get PySem.F.type_dict_get hd' ?_
    refine cw_m2 ?_
    refine ld_f S ⟨oc, hk _ _ hoc, ec⟩ rfl rfl rfl ?_
    with_reducible refine s_ci S ?_
    clear S; intro t1 s' S
    refine s_dget2 S (dict_keep hd S.F.keep) lo (strKind_is _ _ _ _) (some (.int cc tt)) rfl ?_
    clear S; intro s' S
    exact k s' (S.kept rfl)
end Mine
end

section
set_option maxRecDepth 100000
set_option maxHeartbeats 400000
set_option linter.unusedVariables false
set_option pp.deepTerms false
set_option pp.deepTerms.threshold 4
namespace Mine
open PySem PySem.W PySem.Calls PyProof.Rows

theorem kind_spec {w : World} {A : Around} {s : Shared} {R : Result → Shared → Prop} {i : Int} {t : Tok} (W : Wd w s.heap) (r : Rm A 3) (k : ∀ t' s', Kept s s' → R (.ok (.ret (.int 0 t'))) s') :
    codeAny (model PySem.Challenge.pw_ab5042_01 w) A (.call (.ref 228) ⟨[.int i t], []⟩) R s := by
  refine' call_fn0 ["x", "t"] [.int i t] 1 [some (.int i t), none] rfl W r ?k1 ?k2 ?k3 ?k4 ?k5 ?k6 ?k7 ?k8 rfl ?k9 ?_
  case k1 => k_is
  case k2 => exact rfl
  case k3 => exact rfl
  case k4 => k_is
  case k5 => decide +kernel
  case k6 => decide +kernel
  case k7 => exact rfl
  case k8 => exact rfl
  case k9 => exact BindsTo.of_eq rfl
  intro L s' S e r'
  refine wpAny_execs_cons ?_
  refine wpAny_Assign_Name ?_
  refine Call_ ?_
  refine ld_b e W S (.type "type") (by k_is) rfl (by boot_by_name) (by decide) ?_
  refine cw_t1 ?_
  refine ld_i e S 0 rfl rfl ?_
  refine call_type_of (typeIs_int _ _ _) (by decide) ?_
  refine st_i e S 1 rfl ?_
  clear S; intro s' S
  refine wpAny_execs_cons ?_
  with_reducible refine wpAny_If ?_
  refine isTrue_or ?_
  refine wpAny_isTrue_Compare1 ?_
  refine ld_i e S 1 rfl rfl ?_
  refine ld_b e W S (.type "int") (by k_is) rfl (by boot_by_name) (by decide) ?_
  refine wpAny_is_self rfl ?_
  with_reducible refine wpAny_truthy_bool ?_
  rw [if_pos rfl]
  rw [if_pos rfl]
  refine wpAny_execs_cons (wpAny_Return_some ?_)
  with_reducible refine s_ci S ?_
  clear S; intro t1 s' S
  exact k t1 s' (S.kept rfl)

abbrev slObj (C dx : Addr) (sl : Array (Option Value)) : Obj := { cls := .ref C, dict := some dx, data := .plain, slots := sl }
section
variable {prog : Program} {w : World} {A : Around} {E : Value → Shared → Prop} {h₀ : Heap} {L : Addr} {ns : List Str} {vs : List (Option Value)} {l : List (Addr × Assn)} {b s : Shared} {env : Env} {K : Frag} {x C dx : Addr} {fs : List (Str × Value)} {name : Str} {sl sl' : Array (Option Value)}
/-- an object with slots -/
theorem St.instS (S : St h₀ L ns vs l b s) (i j : Nat) (hi : l[i]? = some (x, AObj (slObj C dx sl))) (hj : l[j]? = some (dx, AFld w fs)) : ∃ od, InstAt s.heap x (slObj C dx sl) C (some od) := by
  obtain ⟨o, e, es, n, rfl, f⟩ := S.at hj
  exact ⟨_, S.obj hi, rfl, rfl, e⟩
theorem s_setslot {Q : Unit → Shared → Prop} {v : Value} (p : Addr) (k : Nat) (S : St h₀ L ns vs l b s) (X₀ : K.In h₀) (i j : Nat) (hi : l[i]? = some (x, AObj (slObj C dx sl))) (hj : l[j]? = some (dx, AFld w fs))
    (hs : findIn K (.ref C) "__setattr__" = some (some (.builtin "object.__setattr__"))) (hp : plainOver K C = true) (ht : takerIn K C name = some (some (.ref p))) (hT : typeIn K (.ref p) = some (.type "member_descriptor")) (hk : slotIn K p C = some k) (hz : Nat.blt k 1000 = true)
    (e : (sl ++ Array.replicate (k + 1 - sl.size) none).setIfInBounds k (some v) = sl')
    (h : ∀ s', St h₀ L ns vs (l.set i (x, AObj (slObj C dx sl'))) b s' → Q () s') : wpAny (model prog w) A (setAttr (.ref x) name v) Q E s := by
  obtain ⟨od, I⟩ := S.instS i j hi hj
  obtain ⟨pre, post, o, rfl, N, h1, h2, back⟩ := S.news hi
  refine set_slot S.F X₀ N I hs hp ht hT hk (by simpa [Nat.blt_eq] using hz) rfl rfl (upd_of h1 h2) fun h' F' N' => ?_
  refine h _ (back (s' := { s with heap := h', toks := s.toks + 1 }) _ _ ?_ F' N' rfl rfl rfl)
  show _ = _
  rw [← e]
theorem s_getslot {Q : Value → Shared → Prop} {v : Value} (p : Addr) (k : Nat) (S : St h₀ L ns vs l b s) (X₀ : K.In h₀) (i j : Nat) (hi : l[i]? = some (x, AObj (slObj C dx sl))) (hj : l[j]? = some (dx, AFld w fs))
    (hg : plainGet K C name = true) (hc : isClsIn K C = true) (ha : findIn K (.ref C) name = some (some (.ref p))) (hn : specialIn K (.ref p) "__get__" = some (some (.builtin "member_descriptor.__get__"))) (ht : takesIn K (.ref p) = some true) (hp : slotIn K p C = some k)
    (hv : (sl[k]?).join = some v) (hh : handedIn v = true) {expr : Bool} (h : ∀ s', St h₀ L ns vs l b s' → Q v s') : wpAny (model prog w) A (getAttr (.ref x) name expr) Q E s := by
  obtain ⟨od, I⟩ := S.instS i j hi hj
  exact get_slot S.F X₀ I hg hc ha hn ht hp hv hh (h _ (S.tok _))
end

/-- a count at n -/
def ACnt (dx : Addr) (n : Int) : Assn := fun o => ∃ t t', o = slObj 269 dx #[some (.int n t), some (.bool true), some (.int 1 t')]
def cntL (w : World) (x dx : Addr) (n : Int) : List (Addr × Assn) := [(x, ACnt dx n), (dx, AFld w [])]

theorem count_call {w : World} {A : Around} {E : Value → Shared → Prop} {h₀ : Heap} {L : Addr} {ns : List Str} {vs : List (Option Value)} {l : List (Addr × Assn)} {b s : Shared} {Q : Value → Shared → Prop}
    (S : St h₀ L ns vs l b s) (W : Wd w h₀) (r : Rm A 6) (k : ∀ x dx s', St h₀ L ns vs (cntL w x dx 0 ++ l) b s' → Q (.ref x) s') :
    wpAny (model PySem.Challenge.pw_ab5042_01 w) A (call (.ref 269) [] []) Q E s := by
  refine wpAny_call ?_
  obtain ⟨hh, g, d, t, o⟩ := s
  have X := (W.X.keeps S.F.keep)
  refine make_core (init := .ref 244) (makes_of X (by k_is)) (looks_findIn X (by k_is)) (fun self => bind_fn X self (by k_is)) (.inl rfl) ?_
  have S1 := (S.alloc (P := AFld w []) (o := emptyDict) ⟨[], 0, rfl, .nil⟩ rfl).alloc (P := AObj (slObj 269 hh.objs.size #[])) (o := instObj 269 hh.objs.size) rfl rfl
  simp only [Heap.size_push] at S1
  generalize hx : hh.objs.size + 1 = x at S1 ⊢
  generalize hdx : hh.objs.size = dx at S1 ⊢
  generalize hs : (⟨(hh.push emptyDict).push (instObj 269 dx), g, d, t, o⟩ : Shared) = s1 at S1 ⊢
  clear hs hx hdx S X
  have hn := S1.N.2
  have r1 := r.make 269 [] []
  refine' callf S1 W ["self", "start", "step", "k_start", "k_step", "fast"] [.ref x, .int 0 610, .int 1 611] 3 [some (.ref x), some (.int 0 610), some (.int 1 611), none, none, none] rfl [(x, AObj (slObj 269 dx #[])), (dx, AFld w [])] l (by simp) (by intro p hp; simp [hp]) hn r1 ?k1 ?k2 ?k3 ?k4 ?k5 ?k6 ?k7 ?k8 rfl ?k9 ?_
  case k1 => k_is
  case k2 => exact rfl
  case k3 => exact rfl
  case k4 => k_is
  case k5 => decide +kernel
  case k6 => decide +kernel
  case k7 => exact rfl
  case k8 => exact rfl
  case k9 => exact binds_K (W.at S1).X rfl (by k_is) rfl rfl rfl
  intro L' s S e r' back
  have W1 := W.hide S1 (lm := [(x, AObj (slObj 269 dx #[])), (dx, AFld w [])]) (by simp)
  clear S1
  refine wpAny_execs_cons ?_
  refine wpAny_Assign_Name ?_
  refine Call_ ?_
  refine ld_g e W1 S (.ref 228) (by k_is) rfl ?_
  refine cw_f1 (W1.at S) (by k_is) ?_
  refine ld_i e S 1 rfl rfl ?_
  refine ⟨W1.at S, wpAny_call ?_⟩
  refine kind_spec (W1.at S) (r'.le (by decide)) ?_
  intro t1 s2 K
  replace S := S.after K
  clear K
  refine st_i e S 3 rfl ?_
  clear S; intro s S
  refine wpAny_execs_cons ?_
  refine wpAny_Assign_Name ?_
  refine Call_ ?_
  refine ld_g e W1 S (.ref 228) (by k_is) rfl ?_
  refine cw_f1 (W1.at S) (by k_is) ?_
  refine ld_i e S 2 rfl rfl ?_
  refine ⟨W1.at S, wpAny_call ?_⟩
  refine kind_spec (W1.at S) (r'.le (by decide)) ?_
  intro t2 s2 K
  replace S := S.after K
  clear K
  refine st_i e S 4 rfl ?_
  clear S; intro s S
  refine wpAny_execs_cons ?_
  with_reducible refine wpAny_If ?_
  refine isTrue_or ?_
  refine wpAny_isTrue_Compare1 ?_
  refine ld_i e S 3 rfl rfl ?_
  with_reducible refine s_ci S ?_
  clear S; intro t3 s S
  with_reducible refine eq_int ?_
  with_reducible refine wpAny_truthy_bool ?_
  rw [if_neg (by decide)]
  refine isTrue_or ?_
  refine wpAny_isTrue_Compare1 ?_
  refine ld_i e S 4 rfl rfl ?_
  with_reducible refine s_ci S ?_
  clear S; intro t4 s S
  with_reducible refine eq_int ?_
  with_reducible refine wpAny_truthy_bool ?_
  rw [if_neg (by decide)]
  refine isTrue_or_nil ?_
  rw [if_neg (by decide)]
  refine wpAny_execs_nil ?_
  refine wpAny_execs_cons ?_
  refine wpAny_Assign_Name ?_
  refine BoolOp_and ?_
  refine wpAny_Compare1 ?_
  refine ld_i e S 3 rfl rfl ?_
  with_reducible refine s_ci S ?_
  clear S; intro t5 s S
  with_reducible refine eq_int ?_
  with_reducible refine wpAny_truthy_bool ?_
  rw [if_pos (by decide)]
  refine BoolOp_and ?_
  refine wpAny_Compare1 ?_
  refine ld_i e S 4 rfl rfl ?_
  with_reducible refine s_ci S ?_
  clear S; intro t6 s S
  with_reducible refine eq_int ?_
  with_reducible refine wpAny_truthy_bool ?_
  rw [if_pos (by decide)]
  refine BoolOp_and ?_
  refine wpAny_Compare1 ?_
  refine ld_i e S 2 rfl rfl ?_
  with_reducible refine s_ci S ?_
  clear S; intro t7 s S
  with_reducible refine eq_int ?_
  with_reducible refine wpAny_truthy_bool ?_
  rw [if_pos (by decide)]
  refine BoolOp_and ?_
  refine wpAny_Compare1 ?_
  with_reducible refine wpAny_BinOp ?_
  with_reducible refine wpAny_UnaryOp ?_
  refine ld_g e W1 S (.int 9223372036854775807 499) (by k_is) rfl ?_
  with_reducible refine neg_int ?_
  replace S := S.tok (s.toks + 1)
  with_reducible refine s_ci S ?_
  clear S; intro t8 s S
  with_reducible refine s_sub S ?_
  clear S; intro t9 s S
  refine ld_i e S 1 rfl rfl ?_
  with_reducible refine le_int ?_
  with_reducible refine wpAny_truthy_bool ?_
  rw [if_pos (by decide)]
  refine BoolOp_one ?_
  refine wpAny_Compare1 ?_
  refine ld_i e S 1 rfl rfl ?_
  refine ld_g e W1 S (.int 9223372036854775807 499) (by k_is) rfl ?_
  with_reducible refine le_int ?_
  refine st_i e S 5 rfl ?_
  clear S; intro s S
  refine wpAny_execs_cons ?_
  with_reducible refine wpAny_If ?_
  refine isTrue_plain ?_
  refine ld_i e S 5 rfl rfl ?_
  with_reducible refine wpAny_truthy_bool ?_
  rw [if_pos (by decide)]
  refine wpAny_execs_cons ?_
  refine wpAny_Assign_Name ?_
  with_reducible refine wpAny_BinOp ?_
  refine ld_i e S 1 rfl rfl ?_
  with_reducible refine s_ci S ?_
  clear S; intro t10 s S
  with_reducible refine s_add S ?_
  clear S; intro t11 s S
  refine st_i e S 1 rfl ?_
  clear S; intro s S
  refine wpAny_execs_nil ?_
  refine wpAny_execs_cons ?_
  refine plainObj_wpAny_Assign_Attribute ?_
  refine ld_i e S 5 rfl rfl ?_
  refine ld_i e S 0 rfl rfl ?_
  refine s_setslot 271 1 S W1.X 0 1 rfl rfl (by k_is) (by k_is) (by k_is) (by k_is) (by k_is) rfl rfl ?_
  clear S; intro s S
  refine wpAny_execs_cons ?_
  refine plainObj_wpAny_Assign_Attribute ?_
  refine ld_i e S 1 rfl rfl ?_
  refine ld_i e S 0 rfl rfl ?_
  refine s_setslot 270 0 S W1.X 0 1 rfl rfl (by k_is) (by k_is) (by k_is) (by k_is) (by k_is) rfl rfl ?_
  clear S; intro s S
  refine wpAny_execs_cons ?_
  refine plainObj_wpAny_Assign_Attribute ?_
  refine ld_i e S 2 rfl rfl ?_
  refine ld_i e S 0 rfl rfl ?_
  refine s_setslot 272 2 S W1.X 0 1 rfl rfl (by k_is) (by k_is) (by k_is) (by k_is) (by k_is) rfl rfl ?_
  clear S; intro s S
  refine wpAny_execs_nil ?_
  refine ⟨rfl, k x dx s ?_⟩
  replace S := S.mono (i := 0) (P' := ACnt dx 0) rfl (fun o h => ⟨_, _, h⟩)
  exact back _ _ _ S

theorem next_kind : builtinKind "next" = none := by decide +kernel
theorem next_plain : plainId "next" = true := by decide +kernel
theorem next_entry : entryFor table "next" = some Builtin.«next» := entryFor_of_tree (by kernel_rfl)
theorem next_args (a : Value) : argsOk "next" ⟨[a], []⟩ := by unfold argsOk; kernel_rfl

/-- count.__next__ -/
theorem cnext_spec {w : World} {A : Around} {R : Result → Shared → Prop} {h₀ : Heap} {L : Addr} {ns : List Str} {vs : List (Option Value)} {rest : List (Addr × Assn)} {b s : Shared} {x dx : Addr} {n : Int}
    (S : St h₀ L ns vs (cntL w x dx n ++ rest) b s) (W : Wd w h₀) (r : Rm A 3) (k : ∀ t s', St h₀ L ns vs (cntL w x dx (n + 1) ++ rest) b s' → R (.ok (.ret (.int n t))) s') :
    codeAny (model PySem.Challenge.pw_ab5042_01 w) A (.call (.ref 258) ⟨[.ref x], []⟩) R s := by
  refine' callf S W ["self", "value"] [.ref x] 1 [some (.ref x), none] rfl (cntL w x dx n) rest (fun p hp => List.mem_append_left _ hp) (fun p hp => List.mem_append_right _ hp) S.N.2 r ?k1 ?k2 ?k3 ?k4 ?k5 ?k6 ?k7 ?k8 rfl ?k9 ?_
  case k1 => k_is
  case k2 => exact rfl
  case k3 => exact rfl
  case k4 => k_is
  case k5 => decide +kernel
  case k6 => decide +kernel
  case k7 => exact rfl
  case k8 => exact rfl
  case k9 => exact BindsTo.of_eq rfl
  intro L' s S' e r' back
  have W1 := W.hide S (lm := cntL w x dx n) (fun p hp => List.mem_append_left _ hp)
  clear S
  obtain ⟨o, ho, t, t', rfl⟩ := S'.at (i := 0) rfl
  have S : St _ L' _ _ [(x, AObj (slObj 269 dx #[some (.int n t), some (.bool true), some (.int 1 t')])), (dx, AFld w [])] _ s := S'.upd (i := 0) rfl (fun _ _ _ e => e) rfl rfl rfl ho rfl
  clear S' ho
  refine wpAny_execs_cons ?_
  refine wpAny_Assign_Name ?_
  refine Attribute_any_ ?_
  refine ld_i e S 0 rfl rfl ?_
  refine s_getslot 270 0 S W1.X 0 1 rfl rfl (by k_is) (by k_is) (by k_is) (by k_is) (by k_is) (by k_is) rfl rfl ?_
  clear S; intro s S
  refine st_i e S 1 rfl ?_
  clear S; intro s S
  refine wpAny_execs_cons ?_
  refine plainObj_wpAny_Assign_Attribute ?_
  with_reducible refine wpAny_BinOp ?_
  refine ld_i e S 1 rfl rfl ?_
  refine Attribute_any_ ?_
  refine ld_i e S 0 rfl rfl ?_
  refine s_getslot 272 2 S W1.X 0 1 rfl rfl (by k_is) (by k_is) (by k_is) (by k_is) (by k_is) (by k_is) rfl rfl ?_
  clear S; intro s S
  with_reducible refine s_add S ?_
  clear S; intro t2 s S
  refine ld_i e S 0 rfl rfl ?_
  refine s_setslot 270 0 S W1.X 0 1 rfl rfl (by k_is) (by k_is) (by k_is) (by k_is) (by k_is) rfl rfl ?_
  clear S; intro s S
  refine wpAny_execs_cons (wpAny_Return_some ?_)
  refine ld_i e S 1 rfl rfl ?_
  refine k t s ?_
  replace S := S.mono (i := 0) (P' := ACnt dx (n + 1)) rfl (fun o h => ⟨_, _, h⟩)
  exact back _ _ _ S

/-- next(c) -/
theorem s_next {w : World} {A : Around} {E : Value → Shared → Prop} {h₀ : Heap} {L : Addr} {ns : List Str} {vs : List (Option Value)} {rest : List (Addr × Assn)} {b s : Shared} {x dx : Addr} {n : Int} {Q : Value → Shared → Prop}
    (S : St h₀ L ns vs (cntL w x dx n ++ rest) b s) (W : Wd w h₀) (r : Rm A 4) (k : ∀ t s', St h₀ L ns vs (cntL w x dx (n + 1) ++ rest) b s' → Q (.int n t) s') :
    wpAny (model PySem.Challenge.pw_ab5042_01 w) A (call (.builtin "next") [.ref x]) Q E s := by
  refine Calls.call_function_entry next_kind next_plain next_entry (next_args _) ?_
  obtain ⟨o, ho, t, t', rfl⟩ := S.at (i := 0) rfl
  obtain ⟨od, hod, es, m, rfl, ff⟩ := S.at (i := 1) rfl
  have I : InstAt s.heap x (slObj 269 dx #[some (.int n t), some (.bool true), some (.int 1 t')]) 269 (some (dictOf es m)) := ⟨ho, rfl, rfl, hod⟩
  have X := (W.X.keeps S.F.keep)
  have hs : findIn (hd.heap_39 w.params) (.ref 269) "__next__" = some (some (.ref 258)) := by k_is
  unfold Builtin.«next»
  refine wpAny_bind (m := someArgs "next" 1 2 _) (wpAny_pure ?_)
  refine wpAny_bind (m := specialOf (.ref x) "__next__") (wpAny_bind (I.type.here ((looks_findIn X hs).here ?_)))
  refine wpAny_bind (m := callSpecial? (.ref x) "__next__") (special_fn (name := "__next__") (args := []) X I hs (by k_is) ?_)
  refine wpAny_call ?_
  refine cnext_spec S W r.in1 ?_
  intro t2 s2 S2
  exact wpAny_pure ⟨_, rfl, k t2 s2 S2⟩
end Mine
end

section
set_option maxRecDepth 100000
set_option maxHeartbeats 1000000
set_option linter.unusedVariables false
set_option autoImplicit false
namespace Mine
open PySem PySem.W PySem.Calls PyProof.Rows

def byT (w : World) : Bool := w.params.followText "set-order"
def setT1 (led : Bool) : SetTable := { mask := 7, place := #[0], dummies := #[], finger := 0, led, moves := 0, plain := true }
abbrev setO (es : Array (Int × Value)) (n : Nat) (t : SetTable) : Obj := { cls := .type "set", dict := none, data := .set es n t }
/-- the set {0} -/
def ASet0 (w : World) : Assn := fun o => ∃ n t, o = setO #[(0, .int 0 t)] n (setT1 (!byT w))

theorem lay0 (led : Bool) (t : Tok) : layNew (SetTable.fresh 0 0 led) #[] 0 (.int 0 t) = (#[(0, .int 0 t)], setT1 led, false, false) := by
  cases led <;> kernel_rfl

section
variable {prog : Program} {w : World} {A : Around} {E : Value → Shared → Prop} {s : Shared}
theorem set_add0 {d : Addr} {led : Bool} {t : Tok} {Q : Bool → Shared → Prop} (ho : s.heap.get? d = some (setO #[] 0 (SetTable.fresh 0 0 led)))
  (h : ∀ h' n, h'.get? d = some (setO #[(0, .int 0 t)] n (setT1 led)) → Heap.SameBut d s.heap h' → Q true { s with heap := h', toks := s.toks + 1 }) :
    wpAny (model prog w) A (setAdd d (.int 0 t)) Q E s := by
  unfold setAdd
  refine wpAny_holding (wpAny_bind ((intKind prog w).pyHash (k := 0) (intKind_is _ _ _ _) ?_))
  obtain ⟨hp, g, dd, tk, os⟩ := s
  have e : (intKind prog w).hash 0 = 0 := by rfl
  rw [e]
  unfold setAddHashed setAddHashedIn
  refine wpAny_holding (wpAny_bind (wpAny_setState_of ho rfl rfl ?_))
  dsimp only
  rw [show byScan (.int 0 t) #[] = true by simp [byScan, Value.scannable, scanBound]]
  simp only [↓reduceIte]
  unfold setAddByScan
  refine wpAny_bind ?_
  refine wpAny_bind (wpAny_rule ?_)
  refine wpAny_bind (wpAny_setScan_of (knd := intKind prog w) (k := 0) (intKind_is _ _ _ _) ho rfl rfl (fun e he => by simp at he) ?_)
  rw [lay0]
  dsimp only
  have hb : hashByValue 8 (Value.int 0 t) = pure true := hashByValue_scannable 8 rfl
  have hf : (setT1 led).tooFull = false := by cases led <;> rfl
  wp_walk using wpAny_loadPart' ho
  rw [if_pos rfl]
  exact h _ _ (Heap.get?_update_self _ ho rfl) (Heap.SameBut.update ..)
end

section
variable {prog : Program} {w : World} {A : Around} {E : Value → Shared → Prop} {h₀ : Heap} {L : Addr} {ns : List Str} {vs : List (Option Value)} {l : List (Addr × Assn)} {b s : Shared} {env : Env} {K : Frag}

theorem s_set1 {e : PySem.Expr} {pos : Pos} {t : Tok} {Q : Value → Shared → Prop} (S : St h₀ L ns vs l b s) (X : K.In h₀) (hc : kdsCode K env.code = true) (he : starEach [e] env = (false, eval e env) :: starEach [] env)
    (hev : ∀ s' l', St h₀ L ns vs l' b s' → ∀ Q : Value → Shared → Prop, (∀ s'', St h₀ L ns vs l' b s'' → Q (.int 0 t) s'') → wpAny (model prog w) A (eval e env) Q E s')
    (h : ∀ a s', St h₀ L ns vs ((a, ASet0 w) :: l) b s' → Q (.ref a) s') : wpAny (model prog w) A (eval (.Set [e] 0 pos) env) Q E s := by
  rw [arm_eval_Set]
  refine wpAny_bind (wpAny_standAt ?_)
  refine wpAny_bind (kds_main (X.keeps S.F.keep) hc fun bb => ?_)
  rw [he]
  have hr : displayRoad 0 [e] = .oneByOne := rfl
  rw [hr]
  show wpAny _ _ (setDisplay .oneByOne bb [(false, do let v ← eval e env; standAt pos; pure v)]) _ _ _
  unfold setDisplay newSet setsByText
  dsimp only
  refine wpAny_bind (wpAny_bind (wpAny_bind (wpAny_askSetting (wpAny_pure ?_))))
  dsimp only
  refine wpAny_newObj_type ?_ (by size_fits)
  show wpAny (model prog w) A (do
      holding [Value.ref s.heap.objs.size] do
        let first ← evalAll [do let v ← eval e env; standAt pos; pure v]
        holding first do
          forIn first PUnit.unit fun x __s => do
            let _ ← setAdd s.heap.objs.size x
            pure (ForInStep.yield PUnit.unit)
          pure ()
        forIn ([] : List (Bool × Sem Value)) PUnit.unit fun x __s => do
          let v ← x.2
          if x.1 = true then do
            holding [v] (setDisplayStar s.heap.objs.size v)
            pure (ForInStep.yield PUnit.unit)
          else do
            let _ ← holding [v] (setAdd s.heap.objs.size v)
            pure (ForInStep.yield PUnit.unit)
        pure ()
      pure (Value.ref s.heap.objs.size)) Q E _
  have S1 := S.alloc (P := AObj (setO #[] 0 (SetTable.fresh 0 0 (!byT w)))) (o := setO #[] 0 (SetTable.fresh 0 0 (!byT w))) rfl rfl
  generalize hD : s.heap.objs.size = D at S1 ⊢
  have ht : ({ s with heap := s.heap.push (setO #[] 0 (SetTable.fresh 0 0 (!byT w))) } : Shared) = { s with heap := s.heap.push { cls := .type "set", dict := none, data := .set #[] 0 (SetTable.fresh 0 0 !(model prog w).w.params.followText "set-order") } } := rfl
  rw [← ht]
  refine wpAny_bind (wpAny_holding ?_)
  refine wpAny_bind ?_
  refine wpAny_bind (wpAny_bind (hev _ _ S1 _ fun s2 S2 => ?_))
  refine wpAny_bind (wpAny_standAt (wpAny_pure ?_))
  refine wpAny_bind (wpAny_holding (wpAny_pure (wpAny_pure ?_)))
  refine wpAny_bind (wpAny_holding ?_)
  rw [List.forIn_cons]
  refine wpAny_bind (wpAny_bind (wpAny_bind (set_add0 (S2.obj (i := 0) rfl) fun h' n hg hs => ?_)))
  refine wpAny_pure ?_
  dsimp only
  rw [List.forIn_nil]
  refine wpAny_pure (wpAny_pure ?_)
  rw [List.forIn_nil]
  refine wpAny_bind (wpAny_pure (wpAny_pure (wpAny_pure ?_)))
  refine h D _ (S2.upd (s' := { s2 with heap := h', toks := s2.toks + 1 }) (i := 0) rfl (fun c o n e => (hs.2 c n).trans e) rfl rfl rfl hg ⟨n, t, rfl⟩)
end
end Mine
end

section
set_option maxRecDepth 100000
set_option maxHeartbeats 1000000
set_option linter.unusedVariables false
set_option autoImplicit false
namespace Mine
open PySem PySem.W PySem.Calls PyProof.Rows

theorem noBool_set : typeLookup (.type "set") "__bool__" = pure none := by rw [typeLookup_type, builtinLookup_eq_fast]; kernel_rfl
theorem entry_set_iter : entryFor table "set.__iter__" = some Builtin.«frozenset.__iter__» :=
  entryFor_alias (id' := "frozenset.__iter__") (by kernel_rfl) rfl (by decide +kernel) (by kernel_rfl)
theorem slot_setit_next : Slot "set_iterator" "__next__" "set_iterator.__next__" :=
  .of (owner := "set_iterator") (n := "__next__") (by rw [typeLookup_type, builtinLookup_eq_fast]; kernel_rfl) (by decide +kernel) (by decide +kernel) (by decide +kernel)
    (by first | exact .inl (by decide +kernel) | exact .inr (by decide +kernel)) (by rw [isSubtype_type]; kernel_rfl)
theorem slot_setit_iter : Slot "set_iterator" "__iter__" "set_iterator.__iter__" :=
  .of (owner := "set_iterator") (n := "__iter__") (by rw [typeLookup_type, builtinLookup_eq_fast]; kernel_rfl) (by decide +kernel) (by decide +kernel) (by decide +kernel)
    (by first | exact .inl (by decide +kernel) | exact .inr (by decide +kernel)) (by rw [isSubtype_type]; kernel_rfl)
theorem entry_setit_next : entryFor table "set_iterator.__next__" = some Builtin.«set_iterator.__next__» := entryFor_of_tree (by kernel_rfl)
theorem args_setit_next (a : Value) : argsOk "set_iterator.__next__" ⟨[a], []⟩ := by unfold argsOk; kernel_rfl
theorem args_setit_iter (a : Value) : argsOk "set_iterator.__iter__" ⟨[a], []⟩ := by unfold argsOk; kernel_rfl

abbrev setItO (sl i : Int) (a : Addr) (ep : Nat) : Obj := { cls := .type "set_iterator", dict := none, data := .fields #[rawInt sl, rawInt i, .ref a, rawInt 1, rawInt ep], slots := #[] }
def ASI (w : World) (a : Addr) (ep : Nat) : Nat → Assn
  | 0 => fun o => o = setItO 0 0 a ep
  | _ => fun o => ∃ sl : Int, o = setItO sl 1 a ep ∧ (byT w = true ∨ sl = 1)

theorem pick_one {α : Type} (f : Nat → Nat) (x : α) : pickOrder f #[x] = #[x] := by
  simp [pickOrder, pickOrder.go, Nat.mod_one]
section
variable {prog : Program} {w : World} {A : Around} {E : Value → Shared → Prop} {s : Shared}

theorem truthy_set0 {a : Addr} {o : Obj} {Q : Bool → Shared → Prop} (ho : s.heap.get? a = some o) (hA : ASet0 w o) (h : ∀ t, Q true { s with toks := t }) : wpAny (model prog w) A (truthy (.ref a)) Q E s := by
  obtain ⟨n, t, rfl⟩ := hA
  have hT : s.TypeIs (.ref a) "set" := ⟨_, ho, rfl⟩
  have key : wpAny (model prog w) A (runValue (.builtin "len" ⟨[.ref a], []⟩)) (fun r s' => r = .int 1 (s.toks + 1) ∧ Q true s') E s := by
    refine wpAny_runValue (codeAny_builtin entry_len ?_)
    rw [Around.under_plainId plain_len _]
    exact wpAny_mono (wpAny_len_body_set (Q := fun r s' => r = .int 1 (s.toks + 1) ∧ Q true s') ho ⟨rfl, rfl, rfl⟩ rfl rfl (by simp) ⟨rfl, h _⟩)
      (fun fin s' h' => by obtain ⟨r, rfl, hq⟩ := h'; exact hq) fun _ _ e => e
  unfold truthy
  refine wpAny_bind (wpAny_callSpecial?_none (name := Str.ofString "__bool__") hT noBool_set ?_)
  refine wpAny_bind (wpAny_specialOf (name := Str.ofString "__len__") hT F.slot_set_len.lookup ?_)
  exact wpAny_bind (wpAny_mono key (fun r s' h' => by obtain ⟨rfl, hq⟩ := h'; exact wpAny_pure hq) fun _ _ e => e)

theorem next_set0 {I a : Addr} {o : Obj} {n : Nat} {t : Tok} {Q : Option Value → Shared → Prop} (ho : s.heap.get? a = some (setO #[(0, .int 0 t)] n (setT1 (!byT w)))) (hI : s.heap.get? I = some o) (hA : ASI w a n 0 o)
    (h : ∀ h' o', h'.get? I = some o' → ASI w a n 1 o' → (∀ c x, c ≠ I → s.heap.get? c = some x → h'.get? c = some x) → Q (some (.int 0 t)) { s with heap := h' }) : wpAny (model prog w) A (pyNext (.ref I)) Q E s := by
  cases hA
  have hT : s.TypeIs (.ref I) "set_iterator" := ⟨_, hI, rfl⟩
  have hne : a ≠ I := by rintro rfl; rw [ho] at hI; exact absurd (Value.type.inj (congrArg Obj.cls (Option.some.inj hI))) (by decide)
  unfold pyNext
  refine wpAny_bind (wpAny_attempt (wpAny_callSpecial?_slot (name := Str.ofString "__next__") hT slot_setit_next (wpAny_call_entry slot_setit_next hT entry_setit_next ?_ (args_setit_next _))))
  obtain ⟨hp, g, d, tk, os⟩ := s
  have hB : (model prog w).w.params.followText "set-order" = byT w := rfl
  wp_walk using wpAny_loadPart' hI, wpAny_loadPart' ho, wpAny_askSetting
  have hn : (n != ((n : Nat) : Int).toNat) = false := by simp
  refine wpAny_ite_split (fun hb => ?_) (fun hb => ?_)
  · have hb1 : byT w = true := hb
    rw [hn]
    wp_walk using wpAny_loadPart' ho, wpAny_askSetting
    rw [pick_one]
    wp_walk using wpAny_loadPart' hI
    refine ⟨_, rfl, wpAny_pure (h _ _ (Heap.get?_update_self _ (Heap.get?_update_self _ hI rfl) rfl) ⟨0, rfl, .inl hb1⟩ (fun c x n e => ?_))⟩
    exact Heap.get?_update_of_ne _ (Ne.symm n) (Heap.get?_update_of_ne _ (Ne.symm n) e)
  · have hb1 : byT w = false := Bool.eq_false_iff.mpr hb
    rw [hb1]
    wp_walk using wpAny_loadPart' hI
    refine ⟨_, rfl, wpAny_pure (h _ _ (Heap.get?_update_self _ (Heap.get?_update_self _ hI rfl) rfl) ⟨1, rfl, .inr rfl⟩ (fun c x n e => ?_))⟩
    exact Heap.get?_update_of_ne _ (Ne.symm n) (Heap.get?_update_of_ne _ (Ne.symm n) e)

theorem next_set0_end {I a : Addr} {o : Obj} {n : Nat} {t : Tok} {Q : Option Value → Shared → Prop} (hh : A.handled = none) (ho : s.heap.get? a = some (setO #[(0, .int 0 t)] n (setT1 (!byT w)))) (hI : s.heap.get? I = some o) (hA : ASI w a n 1 o)
    (h : ∀ h', Heap.ExtBut I s.heap h' → Q none { s with heap := h' }) : wpAny (model prog w) A (pyNext (.ref I)) Q E s := by
  obtain ⟨sl, rfl, hsl⟩ := hA
  have hT : s.TypeIs (.ref I) "set_iterator" := ⟨_, hI, rfl⟩
  have hne : a ≠ I := by rintro rfl; rw [ho] at hI; exact absurd (Value.type.inj (congrArg Obj.cls (Option.some.inj hI))) (by decide)
  unfold pyNext
  refine wpAny_bind (wpAny_attempt (wpAny_callSpecial?_slot (name := Str.ofString "__next__") hT slot_setit_next (wpAny_call_entry slot_setit_next hT entry_setit_next ?_ (args_setit_next _))))
  obtain ⟨hp, g, d, tk, os⟩ := s
  wp_walk using wpAny_loadPart' hI, wpAny_loadPart' ho, wpAny_askSetting
  have hn : (n != ((n : Nat) : Int).toNat) = false := by simp
  have hB : (model prog w).w.params.followText "set-order" = byT w := rfl
  have fin : wpAny (model prog w) A.in1 (do
      setField (Value.ref I) 2 Value.none
      raiseNew (← newExc (Value.type "StopIteration") [])) (fun fin s' => ∃ v, fin = Fin.done (Flow.ret v) ∧ wpAny (model prog w) A (pure (some v)) Q E s') (fun e s' => wpAny (model prog w) A (do
        let __do_lift ← isInstance e (Value.type "StopIteration")
        if __do_lift = true then pure none else throw e) Q E s') ⟨hp, g, d, tk, os⟩ := by
    refine wpAny_bind (wpAny_setField hI rfl (by simp) ?_)
    refine wpAny_bind ?_
    simp only [newExc, newTuple]
    refine wpAny_bind (wpAny_newObj_type ?_ (by size_fits))
    refine wpAny_bind (m := firstArgMember _ _) (wpAny_of_eq (a := Value.none) (by first | rfl | (simp only [firstArgMember]; rfl)) ?_)
    refine wpAny_newObj_type ?_ (by size_fits)
    simp only [raiseNew]
    refine wpAny_bind (wpAny_handled ?_)
    rw [show A.in1.handled = none from hh]
    refine wpAny_bind (wpAny_pure (wpAny_throw ?_))
    refine wpAny_bind (wpAny_isInstance (T := "StopIteration") (b := true) ⟨_, Heap.get?_push_size _ rfl, rfl⟩ isSubtype_stop ?_)
    exact wpAny_pure (h _ (((Heap.SameBut.update ..).extBut.push _).push _))
  refine wpAny_ite_split (fun hb => ?_) (fun hb => ?_)
  · have hb1 : byT w = true := hb
    rw [hn]
    wp_walk using wpAny_loadPart' ho, wpAny_askSetting
    rw [pick_one]
    exact fin
  · have hb1 : byT w = false := Bool.eq_false_iff.mpr hb
    rcases hsl with hsl | rfl
    · rw [hb1] at hsl; cases hsl
    rw [hb1]
    wp_walk
    simp only [raiseNew]
    refine wpAny_bind (wpAny_handled ?_)
    rw [show A.in1.handled = none from hh]
    refine wpAny_bind (wpAny_pure (wpAny_throw ?_))
    refine wpAny_bind (wpAny_isInstance (T := "StopIteration") (b := true) ⟨_, Heap.get?_push_size _ rfl, rfl⟩ isSubtype_stop ?_)
    exact wpAny_pure (h _ (((Heap.SameBut.update ..).extBut.push _).push _))
end

section
variable {prog : Program} {w : World} {A : Around} {E : Value → Shared → Prop} {h₀ : Heap} {L : Addr} {ns : List Str} {vs : List (Option Value)} {l : List (Addr × Assn)} {b s : Shared} {env : Env}

theorem s_inset0 {a : Addr} {o : Obj} {k : Int} {t : Tok} {Q : Value → Shared → Prop} (S : St h₀ L ns vs l b s) (ho : s.heap.get? a = some o) (hA : ASet0 w o) (h : ∀ s', St h₀ L ns vs l b s' → Q (.bool (k == 0)) s') :
    wpAny (model prog w) A (compareOp .In (.int k t) (.ref a)) Q E s := by
  obtain ⟨n, u, rfl⟩ := hA
  have hS : s.heap.SetOf (intKind prog w) a (fun k => k == 0) 1 := by
    refine ⟨_, _, _, _, ho, ⟨rfl, rfl, rfl⟩, rfl, ?_, ?_, by simp [scanBound], rfl, rfl⟩
    · intro e he
      simp at he
      subst he
      exact ⟨⟨0, intKind_is _ _ _ _, rfl⟩, rfl⟩
    · intro k
      constructor
      · intro e
        have e : k = 0 := by simpa using e
        subst e
        exact ⟨_, by simp; rfl, intKind_is _ _ _ _⟩
      · rintro ⟨e, he, hk⟩
        simp at he
        subst he
        have := (intKind prog w).inj _ _ _ hk (intKind_is prog w 0 u)
        simp [this]
  exact wpAny_inSet_of (intKind_is _ _ _ _) rfl hS (h _ (S.tok _))

theorem it_set0 {a : Addr} {Q : Value → Shared → Prop} {n : Nat} {t : Tok} (S : St h₀ L ns vs l b s) (ho : s.heap.get? a = some (setO #[(0, .int 0 t)] n (setT1 (!byT w))))
    (h : ∀ I s', St h₀ L ns vs ((I, ASI w a n 0) :: l) b s' → Q (.ref I) s') : wpAny (model prog w) A (pyIter (.ref a)) Q E s := by
  have hT : s.TypeIs (.ref a) "set" := ⟨_, ho, rfl⟩
  refine wpAny_pyIter_slot hT F.slot_set_iter (wpAny_call_entry F.slot_set_iter hT entry_set_iter ?_ (F.args_set_iter_1 _))
  have S0 := S
  obtain ⟨hp, g, d, tk, os⟩ := s
  have hB : (model prog w).w.params.followText "set-order" = byT w := rfl
  wp_walk using wpAny_loadPart' ho, wpAny_askSetting
  refine wpAny_ite_split (fun hc => ?_) (fun hc => ?_)
  · simp only [Bool.and_eq_true] at hc
    exact absurd hc.2 (fun h => nomatch (show false = true from h))
  · wp_walk using wpAny_loadPart' ho
    refine ⟨_, rfl, "set_iterator", _, ⟨_, Heap.get?_push_size _ rfl, rfl⟩, slot_setit_next.lookup, h _ _ ?_⟩
    exact S0.alloc (P := ASI w a n 0) (o := setItO 0 0 a n) rfl rfl
end
end Mine
end

section
set_option maxRecDepth 100000
set_option maxHeartbeats 1000000
set_option linter.unusedVariables false
set_option autoImplicit false
namespace Mine
open PySem PySem.W PySem.Calls PyProof.Rows
section
variable {prog : Program} {w : World} {A : Around} {E : Value → Shared → Prop} {h₀ : Heap} {L : Addr} {ns : List Str} {vs : List (Option Value)} {l : List (Addr × Assn)} {b s : Shared} {env : Env}
/-- the set {0}'s iterator, as Steps -/
theorem Steps.set0 (hh : A.handled = none) (I a : Addr) (n : Nat) (t : Tok) (hself : ∀ (s : Shared) (o : Obj) (i : Nat) (Q : Value → Shared → Prop) (E : Value → Shared → Prop), s.heap.get? I = some o → ASI w a n i o → Q (.ref I) s → wpAny (model prog w) A (pyIter (.ref I)) Q E s) :
    Steps prog w A I 1 (fun _ v => v = .int 0 t) (ASI w a n) (fun h => h.get? a = some (setO #[(0, .int 0 t)] n (setT1 (!byT w)))) where
  item := fun i s o Q E hi ho hI hp h => by
    have : i = 0 := by omega
    subst this
    exact next_set0 hp ho hI fun h' o' e1 e2 e3 => h _ h' s.toks o' rfl e1 e2 e3
  done := fun s o Q E ho hI hp h => next_set0_end hh hp ho hI h
  self := fun i s o Q E ho hI h => hself s o i Q E ho hI h

/-- a loop over any iterator of the ledger -/
theorem s_forSteps {target : PySem.Expr} {body : List Stmt} {R : Result → Shared → Prop} {I : Addr} {n : Nat} {val : Nat → Value → Prop} {It : Nat → Assn} {pre : Heap → Prop} (J : Nat → List (Option Value) → List (Addr × Assn) → Prop) (T : Steps prog w A I n val It pre)
    (S : St h₀ L ns vs ((I, It 0) :: l) b s) (h0 : J 0 vs l) (hpre : ∀ i vs l s, J i vs l → St h₀ L ns vs ((I, It i) :: l) b s → pre s.heap)
    (turn : ∀ i v It' vs l s, i < n → val i v → J i vs l → St h₀ L ns vs ((I, It') :: l) b s → wpAny (model prog w) A (assign target env v) (fun _ s₂ => wpAny (model prog w) A (execs body env) (fun f s₃ => match f with
      | .next | .cont => ∃ vs' l', J (i + 1) vs' l' ∧ St h₀ L ns vs' ((I, It') :: l') b s₃
      | .brk => R (.ok .next) s₃
      | .ret v => R (.ok (.ret v)) s₃) (fun _ _ => False) s₂) (fun _ _ => False) s)
    (done : ∀ vs l s, J n vs l → St h₀ L ns vs l b s → R (.ok .next) s)
    (ht : ∀ it v, letOwnedTupleGo target it v = pure () := by intro _ _; rfl) :
    codeAny (model prog w) A (.forLoop target (.ref I) body [] env) R s := by
  refine codeAny_forLoop (fun k s' => ∃ i vs l, J i vs l ∧ i ≤ n ∧ k = n - i ∧ St h₀ L ns vs ((I, It i) :: l) b s') ?_ n ⟨0, vs, l, h0, Nat.zero_le _, rfl, S⟩ (ht _)
  rintro k s' ⟨i, vs, l, hJ, hi, rfl, S⟩
  obtain ⟨o, ho, hIt⟩ := S.at (i := 0) rfl
  have hp := hpre i vs l s' hJ S
  by_cases hlt : i < n
  · refine T.item i s' o _ _ hlt ho hIt hp fun v h' tk o' hv ho' hI' hk' => ?_
    have S2 : St h₀ L ns vs ((I, It (i + 1)) :: l) b { s' with heap := h', toks := tk } := S.upd (s' := { s' with heap := h', toks := tk }) (i := 0) rfl hk' rfl rfl rfl ho' hI'
    refine wpAny_mono (turn i v _ vs l _ hlt hv hJ S2) (fun _ s₂ h₂ => wpAny_mono h₂ (fun f s₃ h₃ => ?_) fun _ _ x => x.elim) fun _ _ x => x.elim
    cases f with
    | next => obtain ⟨vs', l', hJ', S'⟩ := h₃; exact ⟨n - (i + 1), by omega, i + 1, vs', l', hJ', hlt, rfl, S'⟩
    | cont => obtain ⟨vs', l', hJ', S'⟩ := h₃; exact ⟨n - (i + 1), by omega, i + 1, vs', l', hJ', hlt, rfl, S'⟩
    | brk => exact h₃
    | ret v => exact h₃
  · have hi' : i = n := by omega
    subst hi'
    refine T.done s' o _ _ ho hIt hp fun h' he => wpAny_execs_nil ?_
    exact done vs l _ hJ (S.toExtBut (i := 0) rfl he)

/-- an iterator of a set is its own iterator -/
theorem entry_setit_iter : entryFor table "set_iterator.__iter__" = some Builtin.«dict_keyiterator.__iter__» :=
  entryFor_alias (id' := "dict_keyiterator.__iter__") (by kernel_rfl) rfl (by decide +kernel) (by kernel_rfl)
theorem set_self {s : Shared} {I a : Addr} {n i : Nat} {o : Obj} {Q : Value → Shared → Prop} {E : Value → Shared → Prop} (ho : s.heap.get? I = some o) (hI : ASI w a n i o) (h : Q (.ref I) s) : wpAny (model prog w) A (pyIter (.ref I)) Q E s := by
  have hT : s.TypeIs (.ref I) "set_iterator" := by
    cases i with
    | zero => cases hI; exact ⟨_, ho, rfl⟩
    | succ i => obtain ⟨_, rfl, _⟩ := hI; exact ⟨_, ho, rfl⟩
  refine wpAny_pyIter_slot hT slot_setit_iter (wpAny_call_entry slot_setit_iter hT entry_setit_iter ?_ (args_setit_iter _))
  show wpAny _ _ (ret (.ref I)) _ _ s
  exact wpAny_pure ⟨_, rfl, "set_iterator", _, hT, slot_setit_next.lookup, h⟩
end
end Mine
end

section
set_option maxRecDepth 100000
set_option maxHeartbeats 400000
set_option linter.unusedVariables false
set_option pp.deepTerms false
set_option pp.deepTerms.threshold 4
namespace Mine
open PySem PySem.W PySem.Calls PyProof.Rows

inductive EdgesAt (w : World) (h : Heap) : IKV → List (Int × Int) → Prop
  | nil : EdgesAt w h [] []
  | cons {u c : Int} {t : Tok} {d : Addr} {kvs : IKV} {es : List (Int × Int)} : h.DictOf (SK w) d [("weight", .int c t)] → (d == sysModules) = false → EdgesAt w h kvs es → EdgesAt w h ((u, .ref d) :: kvs) ((u, c) :: es)
theorem EdgesAt.keep {w : World} {h h' : Heap} {kvs : IKV} {es : List (Int × Int)} (x : EdgesAt w h kvs es) (k : ∀ a o, h.get? a = some o → h'.get? a = some o) : EdgesAt w h' kvs es := by
  induction x with
  | nil => exact .nil
  | cons a b _ ih => exact .cons (dict_keep a k) b ih
theorem EdgesAt.length {w : World} {h : Heap} {kvs : IKV} {es : List (Int × Int)} (x : EdgesAt w h kvs es) : kvs.length = es.length := by
  induction x with
  | nil => rfl
  | cons a b _ ih => simp [ih]
theorem EdgesAt.get {w : World} {h : Heap} {kvs : IKV} {es : List (Int × Int)} (x : EdgesAt w h kvs es) : ∀ {i : Nat} {u c : Int}, es[i]? = some (u, c) → ∃ d t, kvs[i]? = some (u, .ref d) ∧ h.DictOf (SK w) d [("weight", .int c t)] ∧ (d == sysModules) = false := by
  induction x with
  | nil => intro i u c h; simp at h
  | cons a b _ ih =>
    intro i u c h
    cases i with
    | zero => simp at h; obtain ⟨rfl, rfl⟩ := h; exact ⟨_, _, rfl, a, b⟩
    | succ i => exact ih (by simpa using h)

/-- the digraph in a heap: nodes 0 .. n-1, and where each leads, with what weight -/
structure GrAt (w : World) (h : Heap) (x : Addr) (n : Int) (adj : Int → List (Int × Int)) : Prop where
  ex : ∃ dx ag an aa ap nkv akv, Inst w h x 1030 dx (gFld ag an aa ap) ∧ h.DictOf (IK w) an nkv ∧ (an == sysModules) = false ∧ (∀ k, 0 ≤ k → k < n → (valueAt nkv k).isSome = true) ∧ h.DictOf (IK w) aa akv ∧ (aa == sysModules) = false ∧
    ∀ k, 0 ≤ k → k < n → ∃ sa ekv, valueAt akv k = some (.ref sa) ∧ h.DictOf (IK w) sa ekv ∧ (sa == sysModules) = false ∧ EdgesAt w h ekv (adj k)
theorem GrAt.keep {w : World} {h h' : Heap} {x : Addr} {n : Int} {adj : Int → List (Int × Int)} (G : GrAt w h x n adj) (k : ∀ a o, h.get? a = some o → h'.get? a = some o) : GrAt w h' x n adj := by
  obtain ⟨dx, ag, an, aa, ap, nkv, akv, h1, h2, h3, h4, h5, h6, h7⟩ := G.ex
  exact ⟨⟨dx, ag, an, aa, ap, nkv, akv, h1.keep k, dict_keep h2 k, h3, h4, dict_keep h5 k, h6, fun i a b => let ⟨sa, ekv, e1, e2, e3, e4⟩ := h7 i a b; ⟨sa, ekv, e1, dict_keep e2 k, e3, e4.keep k⟩⟩⟩

theorem contains_spec {w : World} {A : Around} {s : Shared} {R : Result → Shared → Prop} {x : Addr} {n i : Int} {t : Tok} {adj : Int → List (Int × Int)} (W : Wd w s.heap) (r : Rm A 3) (G : GrAt w s.heap x n adj) (h0 : 0 ≤ i) (h1 : i < n)
    (k : ∀ s', Kept s s' → R (.ok (.ret (.bool true))) s') : codeAny (model PySem.Challenge.pw_ab5042_01 w) A (.call (.ref 683) ⟨[.ref x, .int i t], []⟩) R s := by
  obtain ⟨dx, ag, an, aa, ap, nkv, akv, I, hnd, hlo, hin, _⟩ := G.ex
  refine' call_fn0 ["self", "n"] [.ref x, .int i t] 0 [some (.ref x), some (.int i t)] rfl W r ?k1 ?k2 ?k3 ?k4 ?k5 ?k6 ?k7 ?k8 rfl ?k9 ?_
  case k1 => k_is
  case k2 => exact rfl
  case k3 => exact rfl
  case k4 => k_is
  case k5 => decide +kernel
  case k6 => decide +kernel
  case k7 => exact rfl
  case k8 => exact rfl
  case k9 => exact BindsTo.of_eq rfl
  intro L s' S e r'
  refine wpAny_execs_cons ?_
  refine s_try ?_
  refine wpAny_execs_cons (wpAny_Return_some ?_)
  refine wpAny_Compare1 ?_
  refine ld_i e S 1 rfl rfl ?_
  refine Attribute_any_ ?_
  refine ld_i e S 0 rfl rfl ?_
  refine s_attr none (.ref an) S W.X (I.keep S.F.keep) (by k_is) (by k_is) (by k_is) rfl rfl rfl ?_
  clear S; intro s' S
  refine s_din S (dict_keep hnd S.F.keep) hlo (ik_is w i t) ?_
  clear S; intro s' S
  rw [hin i h0 h1]
  exact k s' (S.kept rfl)

theorem s_notinG {w : World} {A : Around} {E : Value → Shared → Prop} {h₀ : Heap} {L : Addr} {ns : List Str} {vs : List (Option Value)} {l : List (Addr × Assn)} {b s : Shared} {x : Addr} {n i : Int} {t : Tok} {adj : Int → List (Int × Int)} {Q : Value → Shared → Prop}
    (S : St h₀ L ns vs l b s) (W : Wd w h₀) (r : Rm A 3) (G : GrAt w s.heap x n adj) (h0 : 0 ≤ i) (h1 : i < n) (k : ∀ s', St h₀ L ns vs l b s' → Q (.bool false) s') :
    wpAny (model PySem.Challenge.pw_ab5042_01 w) A (compareOp .NotIn (.int i t) (.ref x)) Q E s := by
  have W' := W.at S
  obtain ⟨dx, ag, an, aa, ap, nkv, akv, I, _⟩ := G.ex
  obtain ⟨es, m, IA, _⟩ := I.of
  refine notIn_K S.F W.X IA (by k_is) (by k_is) ?_
  refine wpAny_call (contains_spec W' r G h0 h1 ?_)
  intro s' K
  refine wpAny_truthy_bool ?_
  exact k s' (S.after K)
end Mine
end

section
set_option maxRecDepth 100000
set_option maxHeartbeats 400000
set_option linter.unusedVariables false
set_option autoImplicit false
namespace Mine
open PySem PySem.W PySem.Calls PyProof.Rows

section
variable {prog : Program} {w : World} {A : Around} {E : Value → Shared → Prop} {h₀ : Heap} {L : Addr} {ns : List Str} {vs : List (Option Value)} {l : List (Addr × Assn)} {b s : Shared} {env : Env}
  {K : Type} [DecidableEq K] {knd : PySem.KeyKind prog w K} {kvs : List (K × Value)}

def AView (d : Addr) : Assn := fun o => o.cls = .type "dict_items" ∧ o.data = .fields #[.ref d]
theorem s_ditems {d : Addr} {Q : Value → Shared → Prop} (S : St h₀ L ns vs l b s) (hd : s.heap.DictOf knd d kvs) (lo : (d == sysModules) = false) (h : ∀ v s', St h₀ L ns vs ((v, AView d) :: l) b s' → Q (.ref v) s') :
    wpAny (model prog w) A (call (.builtin "dict.items") [.ref d]) Q E s :=
  call_meetsIn PySem.F.slot_dict_items hd.typeIs PySem.F.entry_dict_items (PySem.F.args_dict_items_1 _) (meets_dict_items knd d lo) ⟨⟨_, hd⟩, h _ _ (S.alloc (P := AView d) (o := { cls := .type "dict_items", data := .fields #[.ref d] }) ⟨rfl, rfl⟩ rfl)⟩

def AII (d : Addr) (i n ep : Nat) : Assn := fun o => ∃ ok ov, o = { cls := .type "dict_itemiterator", dict := none, data := .fields #[.none, .bool false, .ref d, .int i 0, .int n 0, .int ep 0, ok, ov], slots := #[] }

theorem s_forItems {d v : Addr} {xk xv : Str} {pk pv pt : Pos} {x1 : Nat} {body : List Stmt} {R : Result → Shared → Prop} (J : Nat → List (Option Value) → List (Addr × Assn) → Prop) (S : St h₀ L ns vs ((v, AView d) :: l) b s) (e : Ev env L ns) (hh : A.handled = none) (h0 : J 0 vs l)
    (hd : h₀.DictOf knd d kvs) (ik iv : Nat) (hxk : ns[ik]? = some xk) (hxv : ns[iv]? = some xv)
    (turn : ∀ i k v key it It vs l s, kvs[i]? = some (k, v) → knd.is k key = true → J i vs l → St h₀ L ns ((vs.set ik (some key)).set iv (some v)) ((it, It) :: l) b s → wpAny (model prog w) A (execs body env) (fun f s₃ => match f with
      | .next | .cont => ∃ vs' l', J (i + 1) vs' l' ∧ St h₀ L ns vs' ((it, It) :: l') b s₃
      | .brk => R (.ok .next) s₃
      | .ret v => R (.ok (.ret v)) s₃) (fun _ _ => False) s)
    (done : ∀ vs l s, J kvs.length vs l → St h₀ L ns vs l b s → R (.ok .next) s) :
    wpAny (model prog w) A (pyIter (.ref v)) (fun it s₂ => codeAny (model prog w) A (.forLoop (.Tuple [.Name xk pk, .Name xv pv] x1 pt) it body [] env) R s₂) E s := by
  obtain ⟨ov, hov, hcv, hdv⟩ := S.at (i := 0) rfl
  obtain ⟨ep, hda⟩ := Heap.DictOf.dictAt hd
  have atS : ∀ {vs l s}, St h₀ L ns vs l b s → s.heap.DictAt knd d kvs ep := fun S => let ⟨o, es, e, r⟩ := hda; ⟨o, es, S.F.keep _ _ e, r⟩
  refine wpAny_pyIter_items (knd := knd) ⟨ov, hov, hcv, hdv⟩ (atS S) ?_
  have S1 := S.tl.alloc (P := AII d 0 kvs.length ep) (o := { cls := .type "dict_itemiterator", data := .fields #[.none, .bool false, .ref d, .int 0 0, .int kvs.length 0, .int ep 0, .none, .none] }) ⟨_, _, rfl⟩ rfl
  generalize s.heap.objs.size = it at S1 ⊢
  refine codeAny_forLoop_any (fun k s' => ∃ i vs l, J i vs l ∧ i ≤ kvs.length ∧ k = kvs.length - i ∧ St h₀ L ns vs ((it, AII d i kvs.length ep) :: l) b s') ?_ kvs.length ⟨0, vs, l, h0, Nat.zero_le _, rfl, S1⟩
  rintro k s' ⟨i, vs, l, hJ, hi, rfl, S⟩
  obtain ⟨o, ho, ok, ov, rfl⟩ := S.at (i := 0) rfl
  by_cases hlt : i < kvs.length
  · have hx : kvs[i]? = some (kvs[i].1, kvs[i].2) := by simp [hlt]
    refine wpAny_pyNext_items_item ho (atS S) hx fun key h' hkey hout htup hsz hk' => ?_
    have S2 : St h₀ L ns vs ((it, AObj { cls := .type "dict_itemiterator", dict := none, data := .fields #[rawInt s'.heap.objs.size, .bool false, .ref d, .int (i + 1 : Nat) 0, .int kvs.length 0, .int ep 0, key, kvs[i].2], slots := #[] }) :: l) b { s' with heap := h' } :=
      S.upd (s' := { s' with heap := h' }) (i := 0) rfl hk' rfl rfl rfl hout rfl
    have hne : s'.heap.objs.size ≠ it := fun q => by rw [q] at hsz; have := Heap.lt_size ho; rw [← q] at this; exact absurd this (Nat.lt_irrefl _)
    generalize s'.heap.objs.size = a at hout htup S2 hne ⊢
    dsimp only
    refine wpAny_letOwnedTupleGo_items hout fun h2 hit2 hs2 => ?_
    have S3 : St h₀ L ns vs ((it, AII d (i + 1) kvs.length ep) :: l) b { s' with heap := h2 } := S2.upd (s' := { s' with heap := h2 }) (i := 0) rfl (fun c o n e => (hs2.2 c n).trans e) rfl rfl rfl hit2 ⟨_, _, rfl⟩
    have htup2 : IsTup h2 a [key, kvs[i].2].toArray := ⟨_, (hs2.2 a hne).trans htup, rfl, _, rfl⟩
    refine s_unpack S3 hh htup2 rfl rfl ?_
    intro s4 S4
    refine assignInOrder_cons ?_
    refine wpAny_assign_Name (st_i e S4 ik hxk ?_)
    intro s5 S5
    refine assignInOrder_cons ?_
    refine wpAny_assign_Name (st_i e S5 iv hxv ?_)
    intro s6 S6
    refine assignInOrder_nil ?_
    refine wpAny_mono (turn i _ _ key it _ vs l s6 hx hkey hJ S6) (fun f s₃ h₃ => ?_) fun _ _ x => x.elim
    cases f with
    | next => obtain ⟨vs', l', hJ', S'⟩ := h₃; exact ⟨kvs.length - (i + 1), by omega, i + 1, vs', l', hJ', hlt, rfl, S'⟩
    | cont => obtain ⟨vs', l', hJ', S'⟩ := h₃; exact ⟨kvs.length - (i + 1), by omega, i + 1, vs', l', hJ', hlt, rfl, S'⟩
    | brk => exact h₃
    | ret v => exact h₃
  · have hi' : i = kvs.length := by omega
    subst hi'
    refine wpAny_pyNext_items_end hh ho (atS S) (by simp) fun h' he => wpAny_execs_nil ?_
    exact done vs l _ hJ (S.toExtBut (i := 0) rfl he)
end
end Mine
end

section
set_option linter.unusedVariables false
namespace Mine

abbrev MP := List (Int × Int)
def look : MP → Int → Option Int
  | [], _ => none
  | p :: r, k => if p.1 = k then some p.2 else look r k
def put : MP → Int → Int → MP
  | [], k, v => [(k, v)]
  | p :: r, k, v => if p.1 = k then (p.1, v) :: r else p :: put r k v
theorem look_put (m : MP) (k v j : Int) : look (put m k v) j = if j = k then some v else look m j := by
  induction m with
  | nil => simp only [put, look]; by_cases h : k = j <;> simp [h, eq_comm]
  | cons p r ih =>
    unfold put
    by_cases h : p.1 = k
    · simp only [h, if_true, look]
      by_cases hj : k = j
      · simp [hj]
      · rw [if_neg hj, if_neg (Ne.symm hj), if_neg hj]
    · simp only [h, if_false, look]
      by_cases hj : p.1 = j
      · have : j ≠ k := fun e => h (hj.trans e)
        rw [if_pos hj, if_neg this, if_pos hj]
      · rw [if_neg hj, if_neg hj, ih]
theorem put_new {m : MP} {k v : Int} (h : look m k = none) : put m k v = m ++ [(k, v)] := by
  induction m with
  | nil => rfl
  | cons p r ih =>
    unfold look at h
    split at h
    · cases h
    · rename_i hp
      unfold put
      rw [if_neg hp, ih h]; rfl
theorem look_some_mem {m : MP} {k v : Int} (h : look m k = some v) : (k, v) ∈ m := by
  induction m with
  | nil => cases h
  | cons p r ih =>
    unfold look at h
    split at h
    · rename_i hp; cases h; cases hp; exact List.mem_cons_self
    · exact List.mem_cons_of_mem _ (ih h)
theorem look_none {m : MP} {k : Int} : look m k = none ↔ k ∉ m.map (·.1) := by
  induction m with
  | nil => simp [look]
  | cons p r ih =>
    unfold look
    by_cases h : p.1 = k
    · simp [h]
    · simp only [h, if_false, ih, List.map_cons, List.mem_cons, not_or]
      constructor
      · intro x; exact ⟨fun e => h e.symm, x⟩
      · intro x; exact x.2

section
variable (adj : Int → List (Int × Int))
/-- a walk from 0 to a node, with its length -/
inductive Way : Int → Int → Prop
  | zero : Way 0 0
  | step {v d u c : Int} : Way v d → (u, c) ∈ adj v → Way u (d + c)
def Least (v d : Int) : Prop := Way adj v d ∧ ∀ e, Way adj v e → d ≤ e
/-- a walk as the list of its nodes -/
inductive Path : List Int → Int → Int → Prop
  | zero : Path [0] 0 0
  | snoc {ys : List Int} {v d u c : Int} : Path ys v d → (u, c) ∈ adj v → Path (ys ++ [u]) u (d + c)
structure GOK (n : Int) (D : Nat) : Prop where
  pos : 0 < n
  ok : ∀ v, 0 ≤ v → v < n → ∀ p ∈ adj v, 0 ≤ p.1 ∧ p.1 < n ∧ 0 < p.2
  deg : ∀ v, 0 ≤ v → v < n → (adj v).length ≤ D
end

section
variable {adj : Int → List (Int × Int)} {n : Int} {D : Nat}
theorem Way.rng (G : GOK adj n D) {v d : Int} (h : Way adj v d) : 0 ≤ v ∧ v < n ∧ 0 ≤ d := by
  induction h with
  | zero => have := G.pos; omega
  | step _ hm ih =>
    obtain ⟨a, b, c⟩ := ih
    have := G.ok _ a b _ hm
    exact ⟨this.1, this.2.1, by have := this.2.2; omega⟩
theorem Path.way {ys : List Int} {v d : Int} (h : Path adj ys v d) : Way adj v d := by
  induction h with
  | zero => exact .zero
  | snoc _ hm ih => exact .step ih hm

/-- what stands in the search; the edges of v count from the i-th on as still to come -/
structure Inv (adj : Int → List (Int × Int)) (v : Int) (i : Nat) (dist seen : MP) (ks : List (Int × Int × Int)) : Prop where
  i1 : ∀ k ∈ ks, Way adj k.2.2 k.1 ∧ ∃ sv, look seen k.2.2 = some sv ∧ sv ≤ k.1
  i2 : ∀ x d, look dist x = some d → Least adj x d ∧ look seen x = some d
  i3 : ∀ x d, look dist x = some d → ∀ (j : Nat) u c, (adj x)[j]? = some (u, c) → (x = v → j < i) → (look dist u).isSome = true ∨ ∃ k ∈ ks, k.2.2 = u ∧ k.1 ≤ d + c
  i5 : ∀ u su, look seen u = some su → look dist u = none → ∃ k ∈ ks, k.2.2 = u ∧ k.1 = su
/-- where 0 is -/
def Zero (dist : MP) (ks : List (Int × Int × Int)) : Prop := (look dist 0).isSome = true ∨ ((∀ k ∈ ks, k.2.2 = 0) ∧ ∃ k ∈ ks, k.1 = 0)
abbrev Top (adj : Int → List (Int × Int)) (dist seen : MP) (ks : List (Int × Int × Int)) : Prop := Inv adj (-1) 0 dist seen ks ∧ Zero dist ks

theorem inv_start : Top adj [] [(0, 0)] [(0, 0, 0)] := by
  refine ⟨⟨?_, fun x d h => (nomatch h), fun x d h => (nomatch h), ?_⟩, .inr ⟨?_, ?_⟩⟩
  · intro k hk
    simp at hk; subst hk
    exact ⟨.zero, 0, rfl, Int.le_refl _⟩
  · intro u su h _
    unfold look at h
    split at h
    · rename_i e; cases h; exact ⟨(0, 0, 0), by simp, e, rfl⟩
    · cases h
  · intro k hk; simp at hk; subst hk; rfl
  · exact ⟨(0, 0, 0), by simp, rfl⟩

theorem inv_cover (G : GOK adj n D) {dist seen : MP} {ks : List (Int × Int × Int)} (I : Top adj dist seen ks) {x e : Int} (h : Way adj x e) : (∃ d, look dist x = some d ∧ d ≤ e) ∨ ∃ k ∈ ks, k.1 ≤ e := by
  induction h with
  | zero =>
    rcases I.2 with h | ⟨_, k, hk, e⟩
    · obtain ⟨d, hd⟩ := Option.isSome_iff_exists.mp h
      exact .inl ⟨d, hd, (I.1.i2 0 d hd).1.2 0 .zero⟩
    · exact .inr ⟨k, hk, by omega⟩
  | @step v d u c hv hm ih =>
    have hr := hv.rng G
    have hc := (G.ok v hr.1 hr.2.1 _ hm).2.2
    rcases ih with ⟨dv, hdv, hle⟩ | ⟨k, hk, hle⟩
    · obtain ⟨j, hj⟩ := List.getElem?_of_mem hm
      rcases I.1.i3 v dv hdv j u c hj (fun e => by omega) with hu | ⟨k, hk, _, hle'⟩
      · obtain ⟨du, hdu⟩ := Option.isSome_iff_exists.mp hu
        refine .inl ⟨du, hdu, ?_⟩
        have := (I.1.i2 u du hdu).1.2 (dv + c) (.step (I.1.i2 v dv hdv).1.1 hm)
        omega
      · exact .inr ⟨k, hk, by omega⟩
    · exact .inr ⟨k, hk, by simp at hc; omega⟩

/-- an entry whose node is done is dropped -/
theorem inv_skip {dist seen : MP} {k : Int × Int × Int} {ks ks' : List (Int × Int × Int)} (I : Top adj dist seen ks) (hm : ∀ x, x ∈ ks ↔ x = k ∨ x ∈ ks') (hk : (look dist k.2.2).isSome = true) : Top adj dist seen ks' := by
  have up : ∀ x ∈ ks', x ∈ ks := fun x hx => (hm x).mpr (.inr hx)
  refine ⟨⟨fun x hx => I.1.i1 x (up x hx), I.1.i2, fun x d hx j u c hj hv => ?_, fun u su hs hd => ?_⟩, ?_⟩
  · rcases I.1.i3 x d hx j u c hj hv with h | ⟨k', hk', e, hle⟩
    · exact .inl h
    · rcases (hm k').mp hk' with rfl | h
      · exact .inl (e ▸ hk)
      · exact .inr ⟨k', h, e, hle⟩
  · obtain ⟨k', hk', e, he⟩ := I.1.i5 u su hs hd
    rcases (hm k').mp hk' with rfl | h
    · rw [e, hd] at hk; cases hk
    · exact ⟨k', h, e, he⟩
  · rcases I.2 with h | ⟨h, _⟩
    · exact .inl h
    · have := h k ((hm k).mpr (.inl rfl))
      rw [this] at hk
      exact .inl hk

/-- the least entry's node is done -/
theorem inv_pop (G : GOK adj n D) {dist seen : MP} {k : Int × Int × Int} {ks ks' : List (Int × Int × Int)} (I : Top adj dist seen ks) (hm : ∀ x, x ∈ ks ↔ x = k ∨ x ∈ ks') (hmin : ∀ x ∈ ks', k.1 ≤ x.1) (hk : look dist k.2.2 = none) :
    Inv adj k.2.2 0 (put dist k.2.2 k.1) seen ks' ∧ (look (put dist k.2.2 k.1) 0).isSome = true ∧ Least adj k.2.2 k.1 := by
  have up : ∀ x ∈ ks', x ∈ ks := fun x hx => (hm x).mpr (.inr hx)
  have hmem : k ∈ ks := (hm k).mpr (.inl rfl)
  obtain ⟨hw, sv, hsv, hle⟩ := I.1.i1 k hmem
  have hleast : Least adj k.2.2 k.1 := by
    refine ⟨hw, fun e he => ?_⟩
    rcases inv_cover G I he with ⟨d, hd, _⟩ | ⟨x, hx, hxe⟩
    · rw [hk] at hd; cases hd
    · rcases (hm x).mp hx with rfl | h
      · exact hxe
      · exact Int.le_trans (hmin x h) hxe
  have hseen : look seen k.2.2 = some k.1 := by
    obtain ⟨x, hx, e, he⟩ := I.1.i5 _ sv hsv hk
    have hkx : k.1 ≤ x.1 := by
      rcases (hm x).mp hx with rfl | h
      · exact Int.le_refl _
      · exact hmin x h
    rw [hsv]; congr 1; omega
  refine ⟨⟨fun x hx => I.1.i1 x (up x hx), fun x d hx => ?_, fun x d hx j u c hj hv => ?_, fun u su hs hd => ?_⟩, ?_, hleast⟩
  · rw [look_put] at hx
    split at hx
    · rename_i e; cases hx; rw [e]; exact ⟨hleast, hseen⟩
    · exact I.1.i2 x d hx
  · rw [look_put] at hx
    split at hx
    · rename_i e; exact absurd (hv e) (Nat.not_lt_zero _)
    · rw [look_put]
      rcases I.1.i3 x d hx j u c hj (fun e => by have := ((I.1.i2 x d hx).1.1.rng G).1; omega) with h | ⟨k', hk', e, hle⟩
      · left; split
        · rfl
        · exact h
      · rcases (hm k').mp hk' with rfl | h
        · left; rw [if_pos e.symm]; rfl
        · exact .inr ⟨k', h, e, hle⟩
  · rw [look_put] at hd
    split at hd
    · cases hd
    · rename_i hne
      obtain ⟨k', hk', e, he⟩ := I.1.i5 u su hs hd
      rcases (hm k').mp hk' with rfl | h
      · exact absurd e.symm hne
      · exact ⟨k', h, e, he⟩
  · rw [look_put]
    rcases I.2 with h | ⟨h, _⟩
    · split
      · rfl
      · exact h
    · rw [if_pos (h k hmem).symm]; rfl

section
variable {v dv : Int} {i : Nat} {dist seen : MP} {ks : List (Int × Int × Int)} {u c : Int}
theorem inv_edge_le (I : Inv adj v i dist seen ks) (hv : look dist v = some dv) (hj : (adj v)[i]? = some (u, c)) {ud : Int} (hu : look dist u = some ud) : ud ≤ dv + c :=
  (I.i2 u ud hu).1.2 _ (.step (I.i2 v dv hv).1.1 (List.mem_of_getElem? hj))
theorem inv_edge_old (I : Inv adj v i dist seen ks) (hj : (adj v)[i]? = some (u, c)) (hu : (look dist u).isSome = true) : Inv adj v (i + 1) dist seen ks := by
  refine ⟨I.i1, I.i2, fun x d hx j u' c' hj' hv' => ?_, I.i5⟩
  by_cases e : x = v ∧ j = i
  · obtain ⟨rfl, rfl⟩ := e
    rw [hj] at hj'; cases hj'
    exact .inl hu
  · exact I.i3 x d hx j u' c' hj' fun ex => by have := hv' ex; have : j ≠ i := fun ej => e ⟨ex, ej⟩; omega
theorem inv_edge_skip (I : Inv adj v i dist seen ks) (hv : look dist v = some dv) (hj : (adj v)[i]? = some (u, c)) (hu : look dist u = none) {su : Int} (hs : look seen u = some su) (hn : ¬ dv + c < su) : Inv adj v (i + 1) dist seen ks := by
  refine ⟨I.i1, I.i2, fun x d hx j u' c' hj' hv' => ?_, I.i5⟩
  by_cases e : x = v ∧ j = i
  · obtain ⟨rfl, rfl⟩ := e
    rw [hj] at hj'; cases hj'
    rw [hv] at hx; cases hx
    obtain ⟨k, hk, e, he⟩ := I.i5 u su hs hu
    exact .inr ⟨k, hk, e, by omega⟩
  · exact I.i3 x d hx j u' c' hj' fun ex => by have := hv' ex; have : j ≠ i := fun ej => e ⟨ex, ej⟩; omega
theorem inv_edge_push (I : Inv adj v i dist seen ks) (hv : look dist v = some dv) (hj : (adj v)[i]? = some (u, c)) (hu : look dist u = none) (hs : ∀ su, look seen u = some su → dv + c < su) (m : Int) {ks' : List (Int × Int × Int)} (hm : ∀ x, x ∈ ks' ↔ x = (dv + c, m, u) ∨ x ∈ ks) :
    Inv adj v (i + 1) dist (put seen u (dv + c)) ks' := by
  have up : ∀ x ∈ ks, x ∈ ks' := fun x hx => (hm x).mpr (.inr hx)
  have hw : Way adj u (dv + c) := .step (I.i2 v dv hv).1.1 (List.mem_of_getElem? hj)
  refine ⟨fun x hx => ?_, fun x d hx => ?_, fun x d hx j u' c' hj' hv' => ?_, fun x sx hx hd => ?_⟩
  · rcases (hm x).mp hx with rfl | h
    · exact ⟨hw, dv + c, by rw [look_put, if_pos rfl], Int.le_refl _⟩
    · obtain ⟨a, sv, b, cc⟩ := I.i1 x h
      refine ⟨a, ?_⟩
      rw [look_put]
      by_cases e : x.2.2 = u
      · rw [e] at b
        have := hs sv b
        exact ⟨dv + c, by rw [if_pos e], by omega⟩
      · exact ⟨sv, by rw [if_neg e]; exact b, cc⟩
  · obtain ⟨a, b⟩ := I.i2 x d hx
    refine ⟨a, ?_⟩
    rw [look_put, if_neg (fun e => by rw [e, hu] at hx; cases hx)]
    exact b
  · by_cases e : x = v ∧ j = i
    · obtain ⟨rfl, rfl⟩ := e
      rw [hj] at hj'; cases hj'
      rw [hv] at hx; cases hx
      exact .inr ⟨_, (hm _).mpr (.inl rfl), rfl, Int.le_refl _⟩
    · rcases I.i3 x d hx j u' c' hj' (fun ex => by have := hv' ex; have : j ≠ i := fun ej => e ⟨ex, ej⟩; omega) with h | ⟨k, hk, a, b⟩
      · exact .inl h
      · exact .inr ⟨k, up k hk, a, b⟩
  · rw [look_put] at hx
    split at hx
    · rename_i e; cases hx
      exact ⟨_, (hm _).mpr (.inl rfl), e.symm, rfl⟩
    · obtain ⟨k, hk, a, b⟩ := I.i5 x sx hx hd
      exact ⟨k, up k hk, a, b⟩
theorem inv_finish (I : Inv adj v i dist seen ks) (hi : (adj v).length ≤ i) (h0 : (look dist 0).isSome = true) : Top adj dist seen ks := by
  refine ⟨⟨I.i1, I.i2, fun x d hx j u' c' hj' _ => I.i3 x d hx j u' c' hj' fun e => ?_, I.i5⟩, .inl h0⟩
  subst e
  exact Nat.lt_of_lt_of_le (List.getElem?_eq_some_iff.mp hj').1 hi
theorem inv_end (G : GOK adj n D) (I : Top adj dist seen []) {x e : Int} (h : Way adj x e) : ∃ d, look dist x = some d ∧ Least adj x d := by
  rcases inv_cover G I h with ⟨d, hd, _⟩ | ⟨k, hk, _⟩
  · exact ⟨d, hd, (I.1.i2 x d hd).1⟩
  · cases hk
end

/-- the predecessors kept -/
structure PInv (adj : Int → List (Int × Int)) (dist seen pred : MP) : Prop where
  p1 : ∀ u q, look pred u = some q → u ≠ 0 ∧ ∃ dq c, look dist q = some dq ∧ (u, c) ∈ adj q ∧ look seen u = some (dq + c)
  p2 : ∀ u su, look seen u = some su → u ≠ 0 → (look pred u).isSome = true
theorem pinv_start : PInv adj [] [(0, 0)] [] := ⟨fun u q h => (nomatch h), fun u su h hu => by
  unfold look at h
  split at h
  · rename_i e; exact absurd e.symm hu
  · cases h⟩
theorem pinv_pop {dist seen pred : MP} (P : PInv adj dist seen pred) {v d : Int} (hk : look dist v = none) : PInv adj (put dist v d) seen pred := by
  refine ⟨fun u q h => ?_, P.p2⟩
  obtain ⟨a, dq, c, b, e⟩ := P.p1 u q h
  refine ⟨a, dq, c, ?_, e⟩
  rw [look_put, if_neg (fun x => by rw [x, hk] at b; cases b)]
  exact b
theorem pinv_push {dist seen pred : MP} (P : PInv adj dist seen pred) {v dv u c : Int} (hv : look dist v = some dv) (hm : (u, c) ∈ adj v) (hu : look dist u = none) (h0 : (look dist 0).isSome = true) : PInv adj dist (put seen u (dv + c)) (put pred u v) := by
  refine ⟨fun x q h => ?_, fun x sx h hx => ?_⟩
  · rw [look_put] at h
    split at h
    · rename_i e; cases h; subst e
      refine ⟨fun e => ?_, dv, c, hv, hm, by rw [look_put, if_pos rfl]⟩
      rw [e] at hu; rw [hu] at h0; cases h0
    · rename_i hne
      obtain ⟨a, dq, c', b, e, f⟩ := P.p1 x q h
      exact ⟨a, dq, c', b, e, by rw [look_put, if_neg hne]; exact f⟩
  · rw [look_put] at h
    rw [look_put]
    split
    · rfl
    · rename_i hne
      rw [if_neg hne] at h
      exact P.p2 x sx h hx

/-- the way back: from a done node to its predecessor -/
theorem back_step (G : GOK adj n D) {dist seen pred : MP} {ks : List (Int × Int × Int)} {v : Int} {i : Nat} (I : Inv adj v i dist seen ks) (P : PInv adj dist seen pred) {x dx q : Int} (hx : look dist x = some dx) (hq : look pred x = some q) :
    ∃ dq c, look dist q = some dq ∧ (x, c) ∈ adj q ∧ dx = dq + c ∧ 0 ≤ dq ∧ dq < dx := by
  obtain ⟨a, dq, c, b, e, f⟩ := P.p1 x q hq
  have := (I.i2 x dx hx).2
  rw [f] at this
  cases this
  have hr := ((I.i2 q dq b).1.1.rng G)
  have hc := (G.ok q hr.1 hr.2.1 _ e).2.2
  exact ⟨dq, c, b, e, rfl, hr.2.2, by simp at hc; omega⟩
theorem back_zero {dist seen pred : MP} {ks : List (Int × Int × Int)} {v : Int} {i : Nat} (I : Inv adj v i dist seen ks) (P : PInv adj dist seen pred) {x dx : Int} (hx : look dist x = some dx) (hq : look pred x = none) : x = 0 := by
  by_cases h : x = 0
  · exact h
  · have := P.p2 x dx (I.i2 x dx hx).2 h
    rw [hq] at this; cases this
end
end Mine
end

section
set_option maxRecDepth 100000
set_option maxHeartbeats 400000
set_option linter.unusedVariables false
set_option autoImplicit false
namespace Mine
open PySem PySem.W PySem.Calls PyProof.Rows

inductive IV : IKV → MP → Prop
  | nil : IV [] []
  | cons {k v : Int} {t : Tok} {kvs : IKV} {m : MP} : IV kvs m → IV ((k, .int v t) :: kvs) ((k, v) :: m)
theorem IV.length {kvs : IKV} {m : MP} (h : IV kvs m) : kvs.length = m.length := by induction h with | nil => rfl | cons _ ih => simp [ih]
theorem IV.keys {kvs : IKV} {m : MP} (h : IV kvs m) : kvs.map (·.1) = m.map (·.1) := by induction h with | nil => rfl | cons _ ih => simp [ih]
theorem valueAt_cons (k : Int) (v : Value) (kvs : IKV) (j : Int) : valueAt ((k, v) :: kvs) j = if k = j then some v else valueAt kvs j := by
  unfold valueAt
  rw [List.find?_cons]
  by_cases h : k = j <;> simp [h]
theorem IV.some {kvs : IKV} {m : MP} (h : IV kvs m) {k v : Int} (e : look m k = .some v) : ∃ t, valueAt kvs k = .some (.int v t) := by
  induction h with
  | nil => cases e
  | @cons k' v' t kvs m _ ih =>
    rw [valueAt_cons]
    unfold look at e
    by_cases h : k' = k
    · simp only [h, if_true] at e ⊢; cases e; exact ⟨t, rfl⟩
    · simp only [h, if_false] at e ⊢; exact ih e
theorem IV.none {kvs : IKV} {m : MP} (h : IV kvs m) {k : Int} (e : look m k = .none) : valueAt kvs k = .none := by
  induction h with
  | nil => rfl
  | @cons k' v' t kvs m _ ih =>
    rw [valueAt_cons]
    unfold look at e
    by_cases h : k' = k
    · simp [h] at e
    · simp only [h, if_false] at e ⊢; exact ih e
theorem IV.isSome {kvs : IKV} {m : MP} (h : IV kvs m) (k : Int) : (valueAt kvs k).isSome = (look m k).isSome := by
  cases e : look m k with
  | none => rw [h.none e]; rfl
  | some v => obtain ⟨t, ht⟩ := h.some e; rw [ht]; rfl
theorem stored_cons (k : Int) (v : Value) (kvs : IKV) (j : Int) (x : Value) (hn : k ∉ kvs.map (·.1)) : stored ((k, v) :: kvs) j x = if k = j then (k, x) :: kvs else (k, v) :: stored kvs j x := by
  unfold stored
  by_cases h : k = j
  · subst h
    simp only [List.any_cons, decide_true, Bool.true_or, if_true, List.map_cons]
    congr 1
    refine (List.map_congr_left (g := id) fun p hp => ?_).trans (List.map_id _)
    have hne : p.1 ≠ k := fun e => hn (e ▸ List.mem_map_of_mem (f := fun x : Int × Value => x.1) hp)
    rw [if_neg hne]; rfl
  · rw [if_neg h]
    simp only [List.any_cons, h, decide_false, Bool.false_or, List.map_cons, if_false, List.cons_append]
    split <;> rfl
theorem IV.put {kvs : IKV} {m : MP} (h : IV kvs m) (hn : (kvs.map (·.1)).Nodup) (k v : Int) (t : Tok) : IV (stored kvs k (.int v t)) (put m k v) := by
  induction h with
  | nil => exact .cons .nil
  | @cons k' v' t' kvs m hh ih =>
    rw [List.map_cons, List.nodup_cons] at hn
    rw [stored_cons _ _ _ _ _ hn.1]
    unfold Mine.put
    by_cases h : k' = k
    · simp only [h, if_true]; exact .cons hh
    · simp only [h, if_false]; exact .cons (ih hn.2)

/-- a dict of ints by ints -/
def AIM (w : World) (m : MP) : Assn := fun o => ∃ kvs, ADict (IK w) kvs o ∧ IV kvs m
theorem ADict.nodup {prog : Program} {w : World} {K : Type} [DecidableEq K] {knd : PySem.KeyKind prog w K} {kvs : List (K × Value)} {o : Obj} (h : ADict knd kvs o) : (kvs.map (·.1)).Nodup := let ⟨_, _, _, _, _, _, h⟩ := h; h

section
variable {w : World} {A : Around} {E : Value → Shared → Prop} {h₀ : Heap} {L : Addr} {ns : List Str} {vs : List (Option Value)} {l : List (Addr × Assn)} {b s : Shared} {env : Env} {a : Addr} {m : MP}

theorem St.dictI (S : St h₀ L ns vs l b s) {i : Nat} (hi : l[i]? = some (a, AIM w m)) : ∃ kvs, s.heap.DictOf (IK w) a kvs ∧ IV kvs m ∧ (kvs.map (·.1)).Nodup ∧ ∃ S' : St h₀ L ns vs (l.set i (a, ADict (IK w) kvs)) b s, True := by
  obtain ⟨o, e, kvs, hd, hv⟩ := S.at hi
  exact ⟨kvs, Heap.dictOf_iff.mpr ⟨o, e, hd⟩, hv, ADict.nodup hd, S.upd hi (fun _ _ _ e => e) rfl rfl rfl e hd, trivial⟩

theorem s_mset {k v : Int} {t u : Tok} {Q : Unit → Shared → Prop} (S : St h₀ L ns vs l b s) (i : Nat) (hi : l[i]? = some (a, AIM w m)) (hz : m.length ≤ 1000)
    (h : ∀ s', St h₀ L ns vs (l.set i (a, AIM w (put m k v))) b s' → Q () s') : wpAny (model PG w) A (setItem (.ref a) (.int k t) (.int v u)) Q E s := by
  obtain ⟨kvs, hd, hv, hn, S', _⟩ := S.dictI hi
  have hlt : i < l.length := (List.getElem?_eq_some_iff.mp hi).1
  have hi' : (l.set i (a, ADict (IK w) kvs))[i]? = some (a, ADict (IK w) kvs) := by simp [hlt]
  refine s_dset S' i hi' (ik_is w k t) (by rw [hv.length]; omega) fun s' S2 => h s' ?_
  rw [List.set_set] at S2
  have hi2 : (l.set i (a, ADict (IK w) (stored kvs k (.int v u))))[i]? = some (a, ADict (IK w) (stored kvs k (.int v u))) := by simp [hlt]
  have S3 := S2.mono (P' := AIM w (put m k v)) hi2 (fun o ho => ⟨_, ho, hv.put hn k v u⟩)
  rw [List.set_set] at S3
  exact S3
theorem s_mitem {k v : Int} {t : Tok} {value slice : PySem.Expr} {Q : Value → Shared → Prop} (S : St h₀ L ns vs l b s) (i : Nat) (hi : l[i]? = some (a, AIM w m)) (hl : look m k = some v) (h : ∀ u s', St h₀ L ns vs l b s' → Q (.int v u) s')
    (hs : subscripted slice false (.ref a) (.int k t) = operate [.ref a, .int k t] (getItem (.ref a) (.int k t)) := by with_unfolding_all rfl) :
    wpAny (model PG w) A (subscriptTail value slice (.ref a) (.int k t)) Q E s := by
  obtain ⟨kvs, hd, hv, hn, _⟩ := S.dictI hi
  obtain ⟨u, hu⟩ := hv.some hl
  exact s_ditemT S hd (ik_is w k t) hu (fun s' S' => h u s' S') hs
theorem s_min {k : Int} {t : Tok} {Q : Value → Shared → Prop} (S : St h₀ L ns vs l b s) (i : Nat) (hi : l[i]? = some (a, AIM w m)) (h : ∀ s', St h₀ L ns vs l b s' → Q (.bool (look m k).isSome) s') : wpAny (model PG w) A (compareOp .In (.int k t) (.ref a)) Q E s := by
  obtain ⟨kvs, hd, hv, hn, _⟩ := S.dictI hi
  exact s_din S hd (S.lo hi) (ik_is w k t) (fun s' S' => by rw [hv.isSome]; exact h s' S')
theorem s_mnotin {k : Int} {t : Tok} {Q : Value → Shared → Prop} (S : St h₀ L ns vs l b s) (i : Nat) (hi : l[i]? = some (a, AIM w m)) (h : ∀ s', St h₀ L ns vs l b s' → Q (.bool (!(look m k).isSome)) s') : wpAny (model PG w) A (compareOp .NotIn (.int k t) (.ref a)) Q E s := by
  obtain ⟨kvs, hd, hv, hn, _⟩ := S.dictI hi
  exact s_dnotin S hd (S.lo hi) (ik_is w k t) (fun s' S' => by rw [hv.isSome]; exact h s' S')
theorem s_mlen {Q : Value → Shared → Prop} (S : St h₀ L ns vs l b s) (i : Nat) (hi : l[i]? = some (a, AIM w m)) (hz : m.length ≤ 10000) (h : ∀ t s', St h₀ L ns vs l b s' → Q (.int m.length t) s') : wpAny (model PG w) A (call (.builtin "len") [.ref a]) Q E s := by
  obtain ⟨kvs, hd, hv, hn, _⟩ := S.dictI hi
  exact s_dlen S hd (S.lo hi) (by rw [hv.length]; exact hz) (fun t s' S' => by rw [hv.length]; exact h t s' S')
theorem empty_aim (w : World) (o : Obj) (h : AEmpty o) : AIM w [] o := ⟨[], empty_dict (IK w) o h, .nil⟩
/-- a new thing of the ledger behind the first ones -/
theorem St.bury {x : Addr × Assn} {pre post : List (Addr × Assn)} (S : St h₀ L ns vs (x :: (pre ++ post)) b s) : St h₀ L ns vs (pre ++ (x :: post)) b s := S.perm List.perm_middle
end
end Mine
end

section
set_option maxRecDepth 100000
set_option maxHeartbeats 400000
set_option linter.unusedVariables false
set_option autoImplicit false
namespace Mine
open PySem PySem.W PySem.Calls PyProof.Rows
section
variable {prog : Program} {w : World} {A : Around} {E : Value → Shared → Prop} {h₀ : Heap} {L : Addr} {ns : List Str} {vs : List (Option Value)} {l : List (Addr × Assn)} {b s : Shared} {env : Env}
theorem s_list0 {pos : Pos} {Q : Value → Shared → Prop} (S : St h₀ L ns vs l b s) (h : ∀ a s', St h₀ L ns vs ((a, AList []) :: l) b s' → Q (.ref a) s') : wpAny (model prog w) A (eval (.List [] pos) env) Q E s := by
  rw [arm_eval_List]
  exact wpAny_bind (wpAny_standAt (wpAny_bind (args_nil (s_newList S rfl h))))
theorem list_of {elts : List PySem.Expr} {pos : Pos} {Q : Value → Shared → Prop} (h : wpAny (model prog w) A (spliced (backTo pos (starEach elts env))) (fun vs s' => wpAny (model prog w) A (newList vs) Q E s') E s) : wpAny (model prog w) A (eval (.List elts pos) env) Q E s := by
  rw [arm_eval_List]
  exact wpAny_bind (wpAny_standAt (wpAny_bind h))
theorem s_list1 {e : PySem.Expr} {pos : Pos} {Q : Value → Shared → Prop} (h : wpAny (model prog w) A (eval e env) (fun v s₁ => wpAny (model prog w) A (newList [v]) Q E s₁) E s) (he : starEach [e] env = (false, eval e env) :: starEach [] env := by rfl) :
    wpAny (model prog w) A (eval (.List [e] pos) env) Q E s :=
  list_of (spliced_more (wpAny_mono h (fun v s₁ h₁ => spliced_none h₁) fun _ _ x => x) he)
theorem s_list3 {e f g : PySem.Expr} {pos : Pos} {Q : Value → Shared → Prop} (h : wpAny (model prog w) A (eval e env) (fun v s₁ => wpAny (model prog w) A (eval f env) (fun u s₂ => wpAny (model prog w) A (eval g env) (fun x s₃ => wpAny (model prog w) A (newList [v, u, x]) Q E s₃) E s₂) E s₁) E s)
    (he : starEach [e, f, g] env = (false, eval e env) :: starEach [f, g] env := by rfl) (he2 : starEach [f, g] env = (false, eval f env) :: starEach [g] env := by rfl) (he3 : starEach [g] env = (false, eval g env) :: starEach [] env := by rfl) :
    wpAny (model prog w) A (eval (.List [e, f, g] pos) env) Q E s :=
  list_of (spliced_more (wpAny_mono h (fun v s₁ h₁ => spliced_more (wpAny_mono h₁ (fun u s₂ h₂ => spliced_more (wpAny_mono h₂ (fun u s₂ h₂ => spliced_none h₂) fun _ _ x => x) he3) fun _ _ x => x) he2) fun _ _ x => x) he)
theorem s_tuple3 {e f g : PySem.Expr} {k : Nat} {pos : Pos} {Q : Value → Shared → Prop} (h : wpAny (model prog w) A (eval e env) (fun v s₁ => wpAny (model prog w) A (eval f env) (fun u s₂ => wpAny (model prog w) A (eval g env) (fun x s₃ => wpAny (model prog w) A (newTuple [v, u, x]) Q E s₃) E s₂) E s₁) E s)
    (he : starEach [e, f, g] env = (false, eval e env) :: starEach [f, g] env := by rfl) (he2 : starEach [f, g] env = (false, eval f env) :: starEach [g] env := by rfl) (he3 : starEach [g] env = (false, eval g env) :: starEach [] env := by rfl) :
    wpAny (model prog w) A (eval (.Tuple [e, f, g] k pos) env) Q E s :=
  Tuple_ (spliced_more (wpAny_mono h (fun v s₁ h₁ => spliced_more (wpAny_mono h₁ (fun u s₂ h₂ => spliced_more (wpAny_mono h₂ (fun u s₂ h₂ => spliced_none h₂) fun _ _ x => x) he3) fun _ _ x => x) he2) fun _ _ x => x) he)
theorem s_truthy_list {xs : List Value} {a : Addr} {Q : Bool → Shared → Prop} (S : St h₀ L ns vs l b s) (hl : s.heap.IsList a xs.toArray) (hz : xs.length ≤ 100000) (h : ∀ s', St h₀ L ns vs l b s' → Q (!xs.isEmpty) s') : wpAny (model prog w) A (truthy (.ref a)) Q E s :=
  wpAny_truthy_list hl (by simp; omega) (by have := h _ (S.tok (s.toks + 1 + 1)); simpa using this)
theorem cw_t2' : True := trivial
/-- d[i] of a list, from the front, base rule for a list with known things -/
theorem s_append {a : Addr} {xs : List Value} {v : Value} {Q : Value → Shared → Prop} (S : St h₀ L ns vs l b s) (i : Nat) (hi : l[i]? = some (a, AList xs)) (hz : xs.length ≤ 100000) (h : ∀ s', St h₀ L ns vs (l.set i (a, AList (xs ++ [v]))) b s' → Q .none s') :
    wpAny (model prog w) A (call (.builtin "list.append") [.ref a, v]) Q E s := by
  refine wpAny_list_append (S.lst hi) (fun h' hl hs => ?_) (by rw [sizeLine_eq]; simp; omega)
  obtain ⟨o, e, c, d⟩ := hl
  exact h _ (S.upd (s' := { s with heap := h' }) hi (fun c o n e => (hs.2 c n).trans e) rfl rfl rfl e ⟨c, by simpa using d⟩)
end
end Mine
end

section
set_option maxRecDepth 100000
set_option maxHeartbeats 400000
set_option linter.unusedVariables false
set_option autoImplicit false
namespace Mine
open PySem PySem.W PySem.Calls PyProof.Rows

theorem perm_set {α : Type} : ∀ {l : List α} {i : Nat} {p : α}, l[i]? = some p → ∀ q, (l.set i q).Perm (q :: l.eraseIdx i)
  | [], i, p, h, q => by simp at h
  | x :: l, 0, p, h, q => by simp
  | x :: l, i + 1, p, h, q => by
    simp only [List.set_cons_succ, List.eraseIdx_cons_succ]
    exact ((perm_set (by simpa using h) q).cons x).trans (List.Perm.swap q x _)
theorem set_self' {α : Type} {l : List α} {i : Nat} {p : α} (h : l[i]? = some p) : l.set i p = l := by
  apply List.ext_getElem?
  intro j
  rw [List.getElem?_set]
  split
  · rename_i e; subst e
    have := (List.getElem?_eq_some_iff.mp h).1
    rw [if_pos this, h]
  · rfl
theorem two_front {l : List (Addr × Assn)} {i j : Nat} {p q : Addr × Assn} (hi : l[i]? = some p) (hj : l[j]? = some q) (hij : Nat.beq i j = false) : ∃ rest, l.Perm (p :: q :: rest) ∧ ∀ p', (l.set i p').Perm (p' :: q :: rest) := by
  have hne : i ≠ j := fun e => by rw [e, Nat.beq_refl] at hij; cases hij
  have hq : ∃ k : Nat, (l.eraseIdx i)[k]? = some q := by
    by_cases h : j < i
    · exact ⟨j, by rw [List.getElem?_eraseIdx]; simp [h, hj]⟩
    · refine ⟨j - 1, ?_⟩
      rw [List.getElem?_eraseIdx]
      have : ¬ (j - 1 < i) := by omega
      rw [if_neg this, show j - 1 + 1 = j by omega, hj]
  obtain ⟨k, hk⟩ := hq
  have h2 : (l.eraseIdx i).Perm (q :: (l.eraseIdx i).eraseIdx k) := by
    have := perm_set hk q
    rwa [set_self' hk] at this
  refine ⟨(l.eraseIdx i).eraseIdx k, ?_, fun p' => (perm_set hi p').trans (h2.cons p')⟩
  have := perm_set hi p
  rw [set_self' hi] at this
  exact this.trans (h2.cons p)

theorem s_nextI {w : World} {A : Around} {E : Value → Shared → Prop} {h₀ : Heap} {L : Addr} {ns : List Str} {vs : List (Option Value)} {l : List (Addr × Assn)} {b s : Shared} {x dx : Addr} {n : Int} {Q : Value → Shared → Prop}
    (S : St h₀ L ns vs l b s) (W : Wd w h₀) (r : Rm A 4) (i j : Nat) (hi : l[i]? = some (x, ACnt dx n)) (hj : l[j]? = some (dx, AFld w [])) (hij : Nat.beq i j = false) (k : ∀ t s', St h₀ L ns vs (l.set i (x, ACnt dx (n + 1))) b s' → Q (.int n t) s') :
    wpAny (model PySem.Challenge.pw_ab5042_01 w) A (call (.builtin "next") [.ref x]) Q E s := by
  obtain ⟨rest, h1, h2⟩ := two_front hi hj hij
  exact s_next (S.perm h1.symm) W r fun t s' S' => k t s' (S'.perm (h2 _))
end Mine
end

section
set_option maxRecDepth 100000
set_option maxHeartbeats 400000
set_option linter.unusedVariables false
set_option autoImplicit false
namespace Mine
open PySem PySem.W PySem.Calls PyProof.Rows

/-- nodes not yet done -/
def rem (m : MP) : Nat → Nat
  | 0 => 0
  | n + 1 => rem m n + if (look m (n : Int)).isNone then 1 else 0
theorem rem_nil : ∀ n, rem [] n = n
  | 0 => rfl
  | n + 1 => by simp [rem, rem_nil n, look]
theorem rem_out {m : MP} {v d : Int} : ∀ {N : Nat}, (N : Int) ≤ v → rem (put m v d) N = rem m N
  | 0, _ => rfl
  | N + 1, h => by
    unfold rem
    rw [rem_out (N := N) (by omega), look_put, if_neg (show ¬ ((N : Int) = v) by omega)]
theorem rem_put {m : MP} {v d : Int} (h0 : 0 ≤ v) (hn : look m v = none) : ∀ {N : Nat}, v < N → rem (put m v d) N + 1 = rem m N
  | 0, h => by omega
  | N + 1, h => by
    unfold rem
    by_cases e : v = N
    · subst e
      rw [rem_out (Int.le_refl _), look_put, if_pos rfl, hn]; simp
    · have := rem_put h0 hn (N := N) (d := d) (by omega)
      rw [look_put, if_neg (Ne.symm e)]
      omega
theorem put_length (m : MP) (k v : Int) : (put m k v).length ≤ m.length + 1 := by
  induction m with
  | nil => simp [put]
  | cons p r ih => unfold put; split <;> simp <;> omega

def AOne (q : Int) : Assn := fun o => ∃ t, AList [.int q t] o
/-- the dict of predecessors: node, its list, what is in it -/
abbrev PL := List (Int × Addr × Int)
def plKv (pl : PL) : IKV := pl.map fun u => (u.1, .ref u.2.1)
def plM (pl : PL) : MP := pl.map fun u => (u.1, u.2.2)
def plPut : PL → Int → Addr → Int → PL
  | [], k, a, v => [(k, a, v)]
  | p :: r, k, a, v => if p.1 = k then (p.1, a, v) :: r else p :: plPut r k a v
theorem plPut_M (pl : PL) (k : Int) (a : Addr) (v : Int) : plM (plPut pl k a v) = put (plM pl) k v := by
  induction pl with
  | nil => rfl
  | cons p r ih =>
    unfold plPut
    show _ = put ((p.1, p.2.2) :: plM r) k v
    unfold put
    by_cases h : p.1 = k
    · simp only [h, if_true]; simp [plM, h]
    · simp only [h, if_false]
      show (p.1, p.2.2) :: plM (plPut r k a v) = _
      rw [ih]
theorem plPut_Kv (pl : PL) (hn : (pl.map (·.1)).Nodup) (k : Int) (a : Addr) (v : Int) : plKv (plPut pl k a v) = stored (plKv pl) k (.ref a) := by
  induction pl with
  | nil => rfl
  | cons p r ih =>
    rw [List.map_cons, List.nodup_cons] at hn
    have hk : (plKv r).map (·.1) = r.map (·.1) := by simp [plKv, List.map_map]
    have : plKv (p :: r) = (p.1, .ref p.2.1) :: plKv r := rfl
    rw [this, stored_cons _ _ _ _ _ (by rw [hk]; exact hn.1)]
    unfold plPut
    by_cases h : p.1 = k
    · simp only [h, if_true]; simp [plKv, h]
    · simp only [h, if_false]
      show (p.1, Value.ref p.2.1) :: plKv (plPut r k a v) = _
      rw [ih hn.2]
theorem plPut_length (pl : PL) (k : Int) (a : Addr) (v : Int) : (plPut pl k a v).length ≤ pl.length + 1 := by
  induction pl with
  | nil => simp [plPut]
  | cons p r ih => unfold plPut; split <;> simp <;> omega
theorem plPut_mem {pl : PL} {k : Int} {a : Addr} {v : Int} {u : Int × Addr × Int} (h : u ∈ plPut pl k a v) : u ∈ pl ∨ (u.2.1 = a ∧ u.2.2 = v) := by
  induction pl with
  | nil => simp [plPut] at h; right; simp [h]
  | cons p r ih =>
    unfold plPut at h
    split at h
    · rcases List.mem_cons.mp h with rfl | h
      · exact .inr ⟨rfl, rfl⟩
      · exact .inl (List.mem_cons_of_mem _ h)
    · rcases List.mem_cons.mp h with rfl | h
      · exact .inl List.mem_cons_self
      · rcases ih h with h | h
        · exact .inl (List.mem_cons_of_mem _ h)
        · exact .inr h
theorem pl_some {pl : PL} {k q : Int} (h : look (plM pl) k = some q) : ∃ a, valueAt (plKv pl) k = some (.ref a) ∧ ∃ u ∈ pl, u.2.1 = a ∧ u.2.2 = q := by
  induction pl with
  | nil => cases h
  | cons p r ih =>
    show ∃ a, valueAt ((p.1, Value.ref p.2.1) :: plKv r) k = _ ∧ _
    rw [valueAt_cons]
    have h' : look ((p.1, p.2.2) :: plM r) k = some q := h
    unfold look at h'
    by_cases e : p.1 = k
    · simp only [e, if_true] at h' ⊢
      cases h'
      exact ⟨_, rfl, p, List.mem_cons_self, rfl, rfl⟩
    · simp only [e, if_false] at h' ⊢
      obtain ⟨a, h1, u, h2, h3⟩ := ih h'
      exact ⟨a, h1, u, List.mem_cons_of_mem _ h2, h3⟩
theorem pl_none {pl : PL} {k : Int} (h : look (plM pl) k = none) : valueAt (plKv pl) k = none := by
  refine valueAt_none_of_not_mem ?_
  have := look_none.mp h
  simpa [plM, plKv, List.map_map] using this

/-- sizes -/
structure Sz (N D sl c : Nat) (fr : Fri) (sm dm : MP) (pl : PL) : Prop where
  h1 : c + rem dm N * D + sl ≤ 1 + N * D
  h2 : fr.length ≤ c
  h3 : sm.length ≤ c
  h4 : pl.length ≤ c
  h5 : dm.length + rem dm N = N
theorem Sz.c_le {N D sl c : Nat} {fr : Fri} {sm dm : MP} {pl : PL} (z : Sz N D sl c fr sm dm pl) : c ≤ 1 + N * D := by
  have := z.h1
  generalize rem dm N * D = a at this
  omega
/-- the ledger holds what the fringe and the predecessors name -/
structure Held (junk : List (Addr × Assn)) (fr : Fri) (pl : PL) : Prop where
  f : ∀ p ∈ fr, (p.1, AK p.2) ∈ junk
  p : ∀ u ∈ pl, (u.2.1, AOne u.2.2) ∈ junk
theorem Held.cons {junk : List (Addr × Assn)} {fr : Fri} {pl : PL} (h : Held junk fr pl) (x : Addr × Assn) : Held (x :: junk) fr pl := ⟨fun p hp => List.mem_cons_of_mem _ (h.f p hp), fun u hu => List.mem_cons_of_mem _ (h.p u hu)⟩

section
variable {h₀ : Heap} {L : Addr} {ns : List Str} {vs : List (Option Value)} {l : List (Addr × Assn)} {b s : Shared}
theorem St.sink {x y : Addr × Assn} {pre X post : List (Addr × Assn)} (S : St h₀ L ns vs (x :: y :: (pre ++ (X ++ post))) b s) : St h₀ L ns vs (y :: (pre ++ (X ++ (x :: post)))) b s := by
  refine S.perm ?_
  refine List.Perm.trans (List.Perm.cons y ?_) (List.Perm.swap x y _)
  rw [← List.append_assoc, ← List.append_assoc]
  exact List.perm_middle
theorem St.sink1 {x : Addr × Assn} {pre X post : List (Addr × Assn)} (S : St h₀ L ns vs (x :: (pre ++ (X ++ post))) b s) : St h₀ L ns vs (pre ++ (X ++ (x :: post))) b s := by
  refine S.perm ?_
  rw [← List.append_assoc, ← List.append_assoc]
  exact List.perm_middle
end
end Mine
end

section
set_option maxRecDepth 100000
set_option maxHeartbeats 400000
set_option linter.unusedVariables false
set_option autoImplicit false
namespace Mine
open PySem PySem.W PySem.Calls PyProof.Rows

/-- a list, plainly -/
def APL (xs : List Value) : Assn := fun o => ∃ n, o = { cls := .type "list", dict := none, data := .seq xs.toArray n, slots := #[] }
theorem apl_list {xs : List Value} (o : Obj) (h : APL xs o) : AList xs o := by obtain ⟨n, rfl⟩ := h; exact ⟨rfl, n, rfl⟩
/-- a list of ints -/
def AIntL (xs : List Int) : Assn := fun o => ∃ vs, APL vs o ∧ IntsAre vs xs
theorem intsAre_snoc {vs : List Value} {xs : List Int} (h : IntsAre vs xs) (x : Int) (t : Tok) : IntsAre (vs ++ [.int x t]) (xs ++ [x]) := by
  induction h with
  | nil => exact .cons _ _ .nil
  | cons a b _ ih => exact .cons _ _ ih
theorem intsAre_rev {vs : List Value} {xs : List Int} (h : IntsAre vs xs) : IntsAre vs.reverse xs.reverse := by
  induction h with
  | nil => exact .nil
  | cons a b _ ih => rw [List.reverse_cons, List.reverse_cons]; exact intsAre_snoc ih _ _

section
variable {w : World} {A : Around} {E : Value → Shared → Prop} {h₀ : Heap} {L : Addr} {ns : List Str} {vs : List (Option Value)} {l : List (Addr × Assn)} {b s : Shared} {env : Env} {a : Addr} {xs : List Int}

theorem St.intl (S : St h₀ L ns vs l b s) {i : Nat} (hi : l[i]? = some (a, AIntL xs)) : ∃ us, s.heap.IsList a us.toArray ∧ IntsAre us xs ∧ us.length = xs.length ∧ St h₀ L ns vs (l.set i (a, APL us)) b s := by
  obtain ⟨o, e, us, hl, hv⟩ := S.at hi
  exact ⟨us, ⟨o, e, apl_list o hl⟩, hv, hv.length, S.upd hi (fun _ _ _ e => e) rfl rfl rfl e hl⟩
theorem s_newListP {xs : List Value} {Q : Value → Shared → Prop} (S : St h₀ L ns vs l b s) (hz : Nat.ble xs.length 1000 = true) (h : ∀ a s', St h₀ L ns vs ((a, APL xs) :: l) b s' → Q (.ref a) s') : wpAny (model PG w) A (newList xs) Q E s :=
  wpAny_newObj_type (h _ _ (S.alloc (P := APL xs) (o := { cls := .type "list", data := .seq xs.toArray }) ⟨_, rfl⟩ rfl)) (by have := Nat.le_of_ble_eq_true hz; show xs.toArray.size ≤ sizeLine; rw [List.size_toArray, sizeLine_eq]; omega)
theorem s_lmeth {xs : List Value} {name : Str} {id : String} {pl : Sem Bool} {Q : Value × List Value → Shared → Prop} (slot : Slot "list" name id) (ty : typeOf (.builtin id) = pure (.type "method_descriptor")) (S : St h₀ L ns vs l b s) (i : Nat) (hi : l[i]? = some (a, APL xs)) (h : Q (.builtin id, [.ref a]) s) :
    wpAny (model PG w) A (getMethod (.ref a) name pl) Q E s := by
  obtain ⟨o, e, n, rfl⟩ := S.at hi
  exact getMethod_builtin ⟨_, e, rfl⟩ PySem.F.plainAttrs_list slot ty (fun c hc => by cases hc; exact ⟨_, e, rfl⟩) h
theorem s_lmethI {name : Str} {id : String} {pl : Sem Bool} {Q : Value × List Value → Shared → Prop} (slot : Slot "list" name id) (ty : typeOf (.builtin id) = pure (.type "method_descriptor")) (S : St h₀ L ns vs l b s) (i : Nat) (hi : l[i]? = some (a, AIntL xs)) (h : Q (.builtin id, [.ref a]) s) :
    wpAny (model PG w) A (getMethod (.ref a) name pl) Q E s := by
  obtain ⟨o, e, us, ⟨n, rfl⟩, _⟩ := S.at hi
  exact getMethod_builtin ⟨_, e, rfl⟩ PySem.F.plainAttrs_list slot ty (fun c hc => by cases hc; exact ⟨_, e, rfl⟩) h
/-- append to a plain list -/
theorem s_appendP {us : List Value} {v : Value} {Q : Value → Shared → Prop} (S : St h₀ L ns vs l b s) (i : Nat) (hi : l[i]? = some (a, APL us)) (hz : us.length ≤ 100000) (h : ∀ s', St h₀ L ns vs (l.set i (a, APL (us ++ [v]))) b s' → Q .none s') :
    wpAny (model PG w) A (call (.builtin "list.append") [.ref a, v]) Q E s := by
  obtain ⟨o, e, n, rfl⟩ := S.at hi
  refine wpAny_list_append_plain (items := us.toArray) ⟨n, e⟩ (fun h' hl hs => ?_) (by rw [sizeLine_eq]; simp; omega)
  obtain ⟨n', e'⟩ := hl
  exact h _ (S.upd (s' := { s with heap := h' }) hi (fun c o n e => (hs.2 c n).trans e) rfl rfl rfl e' ⟨n', by simp⟩)

/-- l[-1] -/
theorem s_last {t : Tok} {x : Int} {value slice : PySem.Expr} {Q : Value → Shared → Prop} (S : St h₀ L ns vs l b s) (i : Nat) (hi : l[i]? = some (a, AIntL xs)) (hx : xs.getLast? = some x) (h : ∀ u, Q (.int x u) s)
    (hs : subscripted slice false (.ref a) (.int (-1) t) = operate [.ref a, .int (-1) t] (getItem (.ref a) (.int (-1) t)) := by with_unfolding_all rfl) :
    wpAny (model PG w) A (subscriptTail value slice (.ref a) (.int (-1) t)) Q E s := by
  obtain ⟨us, hl, hI, hlen, _⟩ := S.intl hi
  rw [List.getLast?_eq_getElem?] at hx
  have hlt := (List.getElem?_eq_some_iff.mp hx).1
  obtain ⟨u, hu⟩ := hI.get (xs.length - 1) x hx
  exact tail_any hl.typeIs slot_list_getitem.lookup (wpAny_getItem_list_neg hl (by omega) (by simp; omega) (by decide) (by simp; rw [show (-1 + (us.length : Int)).toNat = xs.length - 1 by omega]; exact hu) (h u)) hs
/-- l[k], k from the front -/
theorem s_nth {t : Tok} {k : Int} {x : Int} {value slice : PySem.Expr} {Q : Value → Shared → Prop} (S : St h₀ L ns vs l b s) (i : Nat) (hi : l[i]? = some (a, AIntL xs)) (h0 : 0 ≤ k) (h1 : k < 2 ^ 62) (hx : xs[k.toNat]? = some x) (h : ∀ u, Q (.int x u) s)
    (hs : subscripted slice false (.ref a) (.int k t) = operate [.ref a, .int k t] (getItem (.ref a) (.int k t)) := by with_unfolding_all rfl) :
    wpAny (model PG w) A (subscriptTail value slice (.ref a) (.int k t)) Q E s := by
  obtain ⟨us, hl, hI, hlen, _⟩ := S.intl hi
  obtain ⟨u, hu⟩ := hI.get k.toNat x hx
  exact s_sub_list hl h0 h1 hu (h u) hs
theorem s_appendI {x : Int} {t : Tok} {Q : Value → Shared → Prop} (S : St h₀ L ns vs l b s) (i : Nat) (hi : l[i]? = some (a, AIntL xs)) (hz : xs.length ≤ 100000) (h : ∀ s', St h₀ L ns vs (l.set i (a, AIntL (xs ++ [x]))) b s' → Q .none s') :
    wpAny (model PG w) A (call (.builtin "list.append") [.ref a, .int x t]) Q E s := by
  obtain ⟨us, hl, hI, hlen, S'⟩ := S.intl hi
  have hlt : i < l.length := (List.getElem?_eq_some_iff.mp hi).1
  have hi' : (l.set i (a, APL us))[i]? = some (a, APL us) := by simp [hlt]
  refine s_appendP S' i hi' (by omega) fun s' S2 => h s' ?_
  rw [List.set_set] at S2
  have hi2 : (l.set i (a, APL (us ++ [.int x t])))[i]? = some (a, APL (us ++ [.int x t])) := by simp [hlt]
  have S3 := S2.mono (P' := AIntL (xs ++ [x])) hi2 (fun o ho => ⟨_, ho, intsAre_snoc hI x t⟩)
  rw [List.set_set] at S3
  exact S3
/-- l.reverse() -/
theorem s_reverse {Q : Value → Shared → Prop} (S : St h₀ L ns vs l b s) (i : Nat) (hi : l[i]? = some (a, AIntL xs)) (hz : xs.length ≤ 100000) (h : ∀ s', St h₀ L ns vs (l.set i (a, AIntL xs.reverse)) b s' → Q .none s') :
    wpAny (model PG w) A (call (.builtin "list.reverse") [.ref a]) Q E s := by
  obtain ⟨us, hl, hI, hlen, S'⟩ := S.intl hi
  obtain ⟨o, ho, hc, n, hd⟩ := id hl
  refine wpAny_call_entry F.slot_list_reverse hl.typeIs F.entry_list_reverse ?_ (F.args_list_reverse_1 _)
  have hlt : i < l.length := (List.getElem?_eq_some_iff.mp hi).1
  have hi' : (l.set i (a, APL us))[i]? = some (a, APL us) := by simp [hlt]
  obtain ⟨o', ho', n0, e0⟩ := S'.at hi'
  rw [ho] at ho'
  cases ho'
  subst e0
  simp only at hd
  cases hd
  have ho2 : (s.heap.update a (Obj.mapSeq (·.reverse))).get? a = some (Obj.mapSeq (·.reverse) _) := Heap.get?_update_self _ ho rfl
  have S2 := S'.upd (s' := { s with heap := s.heap.update a (Obj.mapSeq (·.reverse)) }) (P' := AIntL xs.reverse) hi' (fun c o n e => Heap.get?_update_of_ne _ (Ne.symm n) e) rfl rfl rfl ho2 ⟨us.reverse, ⟨_, by
    simp only [Obj.mapSeq]
    congr 1
    congr 1
    simp⟩, intsAre_rev hI⟩
  rw [List.set_set] at S2
  have hup : ∀ (E : Value → Shared → Prop) (Q : Unit → Shared → Prop), Q () { s with heap := s.heap.update a (Obj.mapSeq (·.reverse)) } → wpAny (model PG w) A.in1 (updateSeq a (·.reverse)) Q E s :=
    fun E Q q => wpAny_updateSeq ho rfl q (by simp [sizeLine_eq]; omega) (by simp [sizeLine_eq]; omega)
  have h2 := h _ S2
  clear h S S' S2
  obtain ⟨hp, g, dd, tk, os⟩ := s
  wp_walk using hup
  exact ⟨_, rfl, h2⟩
end
end Mine

namespace Mine
open PySem PySem.W PySem.Calls PyProof.Rows
section
variable {M : Model} {A : Around} {E : Value → Shared → Prop} {s : Shared} {env : Env}
theorem as_sub {o i : PySem.Expr} {pos : Pos} {v : Value} {Q : Unit → Shared → Prop} (h : wpAny M A (eval o env) (fun ov s₂ => wpAny M A (eval i env) (fun iv s₃ => wpAny M A (setItem ov iv v) (fun _ => Q ()) E s₃) E s₂) E s) :
    wpAny M A (assign (.Subscript o i pos) env v) Q E s := fun Γ p hΓ => by
  simp only [assign_Subscript o i pos v, Sem.wp_bind', Sem.wp_holding, Sem.wp_cmd_standAt, Sem.wp_release, Sem.wp_pure']
  exact Sem.wp_mono M Γ _ (fun ov p₂ s₂ h₂ => Sem.wp_mono M Γ _ (fun iv _ s₃ h₃ => h₃ Γ _ hΓ) (fun _ _ _ h' => h') _ _ (h₂ Γ p₂ hΓ)) (fun _ _ _ h' => h') _ _ (h Γ _ hΓ)
end
/-- what is to come behind a node of the way -/
def Ext (adj : Int → List (Int × Int)) (cur dc : Int) (rest : List Int) (t dt : Int) : Prop := ∀ ys, Path adj ys cur dc → Path adj (ys ++ rest) t dt
theorem ext_nil {adj : Int → List (Int × Int)} {t dt : Int} : Ext adj t dt [] t dt := fun ys h => by rw [List.append_nil]; exact h
theorem ext_step {adj : Int → List (Int × Int)} {cur dc q dq c t dt : Int} {rest : List Int} (h : Ext adj cur dc rest t dt) (hm : (cur, c) ∈ adj q) (hd : dc = dq + c) : Ext adj q dq (cur :: rest) t dt := fun ys hp => by
  have := h (ys ++ [cur]) (hd ▸ Path.snoc hp hm)
  rw [List.append_assoc] at this
  exact this
end Mine
end

section
set_option maxRecDepth 100000
set_option maxHeartbeats 400000
set_option linter.unusedVariables false
set_option autoImplicit false
namespace Mine
open PySem PySem.W PySem.Calls PyProof.Rows

section
variable {w : World} {A : Around} {E : Value → Shared → Prop} {h₀ : Heap} {L : Addr} {ns : List Str} {vs : List (Option Value)} {l : List (Addr × Assn)} {b s : Shared} {env : Env}

theorem s_dictSet {prog : Program} {K : Type} [DecidableEq K] {knd : PySem.KeyKind prog w K} {kvs : List (K × Value)} {k : K} {key : Value} {a : Addr} {v : Value} {Q : Unit → Shared → Prop} (S : St h₀ L ns vs l b s) (i : Nat) (hi : l[i]? = some (a, ADict knd kvs)) (hkey : knd.is k key = true) (hsz : kvs.length ≤ 10000)
    (h : ∀ s', St h₀ L ns vs (l.set i (a, ADict knd (stored kvs k v))) b s' → Q () s') : wpAny (model prog w) A (dictSet a key v) Q E s := by
  unfold dictSet
  try with_reducible refine wpAny_holding ?_
  refine wpAny_bind (knd.pyHash hkey ?_)
  have S' := S.tok (s.toks + 1)
  refine wpAny_dictSetHashed_pairs hkey (S'.dct hi) (fun h' hmm hs => ?_) (by rw [sizeLine_eq]; omega)
  obtain ⟨o', ho', hd'⟩ := Heap.dictOf_iff.mp hmm
  exact h _ (S'.upd (s' := { s with heap := h', toks := s.toks + 1 }) hi (fun c o hc e => (hs.2 c hc).trans e) rfl rfl rfl ho' hd')

/-- {x: [x] for x in ..}, over an iterator that gives 0 once -/
theorem s_dcompOne {use : Option (Value → Sem Unit)} {iter : PySem.Expr} {x : Str} {px pk pv pos' pos : Pos} {scope : Scope} {I : Addr} {It : Nat → Assn} {pre : Heap → Prop} {Q : Value → Shared → Prop} {st : Tok}
    (S : St h₀ L ns vs ((I, It 0) :: l) b s) (T : Steps PG w A I 1 (fun _ v => v = .int 0 st) It pre) (hsc : compEvOk scope x = true) (hg : env.globals = mainGlobals) (hb : env.builtins = builtinsNs)
    (hpre : ∀ h', (∀ a o, a ≠ I → s.heap.get? a = some o → h'.get? a = some o) → pre h')
    (done : ∀ C D sp s', St h₀ L ns vs ((C, ANs C) :: (D, ADict (IK w) [(0, .ref sp)]) :: (sp, AOne 0) :: l) b s' → compPost (model PG w) A E use Q (.ref D) C (.ok .next) s') :
    wpAny (model PG w) A newDict (fun acc s₃ => wpAny (model PG w) A (newFunctionEnv scope env.globals [] [] env.qual none .none (some env)) (fun cenv s₄ =>
      codeAny (model PG w) A (.compStart (.DictComp (.Name x pk) (.List [.Name x pv] pos') [⟨.Name x px, iter, [], 0⟩] scope pos) 0 (.ref I) acc { cenv with scope := relabel scope env }) (compPost (model PG w) A E use Q acc cenv.locals) s₄) E s₃) E s := by
  simp only [compEvOk, Bool.and_eq_true, beq_iff_eq, Bool.not_eq_true', List.all_eq_true] at hsc
  obtain ⟨⟨⟨hkind, hx⟩, hdbg⟩, hall⟩ := hsc
  have hcell : ∀ y ∈ scope.names, y.2 ≠ .cell := fun y hy e => by
    have := (hall y hy).1
    rw [e] at this; exact absurd this (by decide)
  have S₁ := S.alloc (P := AEmpty) (o := { cls := .type "dict", data := .dict #[] }) rfl rfl
  unfold newDict
  simp only [newObj]
  refine wpAny_bind (wpAny_alloc (wpAny_pure ?_))
  have hDs : s.heap.get? s.heap.objs.size = none := Heap.get?_none_of_le (Nat.le_refl _)
  have hpush : ∀ a o, s.heap.get? a = some o → (s.heap.push { cls := .type "dict", data := .dict #[] }).get? a = some o := fun a o e => Heap.get?_push_of_some _ e
  generalize hD' : s.heap.objs.size = D at S₁ hDs ⊢
  generalize hs₁ : ({ s with heap := s.heap.push { cls := .type "dict", data := .dict #[] } } : Shared) = s₁ at S₁ ⊢
  have hk₁ : ∀ a o, s.heap.get? a = some o → s₁.heap.get? a = some o := by rw [← hs₁]; exact hpush
  have hg₁ : s₁.gens = s.gens := by rw [← hs₁]
  have hd₁ : s₁.drawn = s.drawn := by rw [← hs₁]
  have ho₁ : s₁.os = s.os := by rw [← hs₁]
  clear hs₁ hpush hD'
  replace S₁ := S₁.mono (i := 0) rfl (empty_dict (IK w))
  replace S₁ : St h₀ L ns vs ((D, ADict (IK w) []) :: (I, It 0) :: l) b s₁ := S₁
  refine wpAny_newFunctionEnv hcell (by intro y hy; simp at hy) (fun h₁ hns₁ hsb₁ => ?_) hkind
  have hno : (fun y => ([] : List (Str × Value)).reverse.lookup y) = fm [x] [none] := by funext y; unfold fm; split <;> rfl
  rw [hno] at hns₁
  have hk : ∀ a o, s₁.heap.get? a = some o → h₁.get? a = some o := fun a o e => hsb₁.extBut a o (Nat.ne_of_lt (Heap.lt_size e)) (Heap.get?_push_of_some _ e)
  have lmIn : ∀ p ∈ [(D, ADict (IK w) []), (I, It 0)], p ∈ (D, ADict (IK w) []) :: (I, It 0) :: l := by simp
  have SI : St (hideAll s₁.heap [D, I]) s₁.heap.objs.size [x] [none] [(D, ADict (IK w) []), (I, It 0)] s₁ { s₁ with heap := h₁, toks := s₁.toks + ([] : List (Str × Value)).length } := by
    refine ⟨⟨hns₁, fun a o e => hk a o (of_hideAll _ e), Nat.le_of_eq (hideAll_size _ _)⟩, ⟨fun p hp => ?_, ?_⟩, rfl, ?_, rfl, rfl, rfl⟩
    · obtain ⟨⟨o, a, c⟩, _, _, lo⟩ := S₁.N.1 p (lmIn p hp)
      exact ⟨⟨o, hk _ _ a, c⟩, Nat.ne_of_lt (Heap.lt_size a), hideAll_none _ (by
        rcases List.mem_cons.mp hp with rfl | hp
        · simp
        · simp at hp; subst hp; simp), lo⟩
    · have := S₁.N.2
      simp only [List.map_cons, List.nodup_cons, List.mem_cons, not_or] at this ⊢
      exact ⟨⟨this.1.1, by simp⟩, by simp, List.nodup_nil⟩
    · rw [hideAll_size]; exact S₁.lowS
  have hCs : s₁.heap.get? s₁.heap.objs.size = none := Heap.get?_none_of_le (Nat.le_refl _)
  have base : ∀ a o, a ≠ I → s.heap.get? a = some o → (hideAll s₁.heap [D, I]).get? a = some o := fun a o n e => hide_get (hk₁ a o e) (by
    intro hm
    simp at hm
    rcases hm with rfl | rfl
    · rw [hDs] at e; cases e
    · exact n rfl)
  have evc : Ev (compEnvC scope [] s₁.heap.objs.size env) s₁.heap.objs.size [x] := by
    refine ⟨by simp [compEnvC, relabel, hkind], rfl, ?_, ?_, by simp, hg, hb⟩
    · intro y hy
      simp at hy; subst hy
      exact lookup_relabel_local hx
    · intro y hy
      simp at hy; subst hy
      exact hdbg
  have loop : ∀ C, C = s₁.heap.objs.size → ∀ s₃ : Shared, St (hideAll s₁.heap [D, I]) C [x] [none] [(D, ADict (IK w) []), (I, It 0)] s₁ s₃ →
      codeAny (model PG w) A (.compLoop (.DictComp (.Name x pk) (.List [.Name x pv] pos') [⟨.Name x px, iter, [], 0⟩] scope pos) 0 (.ref I) (.ref D) (compEnvC scope [] C env)) (compPost (model PG w) A E use Q (.ref D) C) s₃ := by
    intro C hC s₃ S₃
    rw [← hC] at evc hCs
    have hjoin : ∀ (vs' : List (Option Value)) (D' : List (Addr × Assn)) (s' : Shared), St (hideAll s₁.heap [D, I]) C [x] vs' D' s₁ s' → St h₀ L ns vs (D' ++ l) b s' := fun vs' D' s' S' => by
      refine S₁.join (lm := [(D, ADict (IK w) []), (I, It 0)]) (rest := l) lmIn (fun p hp => by simp [hp]) ?_ S'
      exact S₁.N.2
    refine codeAny_compLoop_testsD (fun k s' => (k = 1 ∧ St (hideAll s₁.heap [D, I]) C [x] [none] [(D, ADict (IK w) []), (I, It 0)] s₁ s') ∨
      (k = 0 ∧ ∃ sp vs', St (hideAll s₁.heap [D, I]) C [x] vs' [(D, ADict (IK w) [(0, .ref sp)]), (sp, AOne 0), (I, It 1)] s₁ s')) ?_ 1 (.inl ⟨rfl, S₃⟩)
    rintro k s' (⟨rfl, S'⟩ | ⟨rfl, sp, vs', S'⟩)
    · obtain ⟨o, ho, hI⟩ := S'.at (i := 1) rfl
      have hpre' : pre s'.heap := hpre _ fun a o n e => S'.F.keep _ _ (base a o n e)
      refine T.item 0 s' o _ _ (by decide) ho hI hpre' fun v h' tk o' hv ho' hI' hk' => ?_
      subst hv
      have S4 : St (hideAll s₁.heap [D, I]) C [x] [none] [(D, ADict (IK w) []), (I, It 1)] s₁ { s' with heap := h', toks := tk } := S'.upd (s' := { s' with heap := h', toks := tk }) (i := 1) rfl hk' rfl rfl rfl ho' hI'
      refine wpAny_assign_Name (st_i evc S4 0 rfl ?_)
      intro s₅ S₅
      refine wpAny_tests_nil ?_
      rw [if_pos rfl]
      refine ld_i evc S₅ 0 rfl rfl ?_
      refine s_list1 ?_
      refine ld_i evc S₅ 0 rfl rfl ?_
      refine s_newList S₅ rfl ?_
      intro sp s₆ S₆
      refine s_dictSet (kvs := []) S₆ 1 rfl (ik_is w 0 st) (by decide) fun s₇ S₇ => ?_
      refine ⟨0, by decide, .inr ⟨rfl, sp, [some (.int 0 st)], ?_⟩⟩
      have S₈ : St (hideAll s₁.heap [D, I]) C [x] [some (.int 0 st)] ([(sp, AList [.int 0 st]), (D, ADict (IK w) [(0, .ref sp)]), (I, It 1)] ++ []) s₁ s₇ := S₇
      have S₉ := (S₈.pick [1, 0, 2] rfl).mono (i := 1) (P' := AOne 0) rfl (fun o h => ⟨st, h⟩)
      exact S₉
    · obtain ⟨o, ho, hI⟩ := S'.at (i := 2) rfl
      have hpre' : pre s'.heap := hpre _ fun a o n e => S'.F.keep _ _ (base a o n e)
      refine T.done s' o _ _ ho hI hpre' fun h' he => ?_
      have S₇ := S'.toExtBut (i := 2) rfl he
      have S₈ : St h₀ L ns vs ([(D, ADict (IK w) [(0, .ref sp)]), (sp, AOne 0)] ++ l) b { s' with heap := h' } := hjoin _ _ _ S₇
      have hn1 : ∀ a o, s₁.heap.get? a = some o → a ≠ C := fun a o e q => by rw [q, hCs] at e; cases e
      obtain ⟨oL, es, ep, e, r⟩ := S₇.F.ns
      obtain ⟨oL', eL'⟩ := S₁.L_get
      refine done C D sp _ (S₈.add e ⟨_, fun h e => ⟨oL, es, ep, e, r⟩⟩ ?_ (Ne.symm (hn1 _ _ eL')) ?_ ?_)
      · cases q : h₀.get? C with
        | none => rfl
        | some o => rw [S₁.F.keep _ _ q] at hCs; cases hCs
      · rw [hC]; exact beq_eq_false_iff_ne.mpr (Nat.ne_of_gt S₁.lowS)
      · intro hm
        obtain ⟨p, hp, ep⟩ := List.mem_map.mp hm
        have : p.1 ≠ C := by
          rcases (List.mem_append (s := [(D, ADict (IK w) [(0, .ref sp)]), (sp, AOne 0)])).mp hp with hp | hp
          · exact (S₇.N.1 p hp).2.1
          · obtain ⟨⟨o, q, _⟩, _⟩ := S₁.N.1 p (by simp [hp])
            exact hn1 _ _ q
        exact this ep
  obtain ⟨o, ho, hI⟩ := SI.at (i := 1) rfl
  exact codeAny_compStart_dict (loop _ rfl _ SI) (T.self 0 _ o _ _ ho hI (loop _ rfl _ SI))
end
end Mine
end

section
set_option maxRecDepth 100000
set_option maxHeartbeats 4000000
set_option linter.unusedVariables false
set_option pp.deepTerms false
set_option pp.deepTerms.threshold 4
namespace Mine
open PySem PySem.W PySem.Calls PyProof.Rows

/-- how _dijkstra_multisource is called: plainly, or with a target, a dict of paths and the list [0] in it -/
structure MdP where
  tg : Int
  tt : Tok
  P : Addr
  sp : Addr
abbrev Md := Option MdP
def mdL (w : World) : Md → List (Addr × Assn)
  | none => []
  | some p => [(p.P, ADict (IK w) [(0, .ref p.sp)])]
def mdP : Md → Value
  | none => .none
  | some p => .ref p.P
def mdT : Md → Value
  | none => .none
  | some p => .int p.tg p.tt
def mdKw : Md → List (Str × Value)
  | none => [("cutoff", .none)]
  | some p => [("paths", .ref p.P), ("cutoff", .none), ("target", .int p.tg p.tt)]
def mdV (pd : Addr) : Md → Value
  | none => .none
  | some _ => .ref pd
def mdX (w : World) (pd : Addr) (pl : PL) : Md → List (Addr × Assn)
  | none => []
  | some p => [(pd, ADict (IK w) (plKv pl)), (p.P, ADict (IK w) [(0, .ref p.sp)])]

abbrev djN : List Str := ["G", "sources", "weight", "pred", "paths", "cutoff", "target", "pred_dict", "G_succ", "dist", "seen", "c", "fringe", "source", "number_of_sources", "dist_v", "_", "v", "u", "e", "cost", "vu_dist", "u_dist", "path", "current_preds"]
abbrev djV (x so lam : Addr) (md : Md) (a1 a2 a3 a4 a5 a6 a7 a8 a9 a10 a11 a12 a13 a14 a15 a16 a17 a18 : Option Value) : List (Option Value) :=
  [some (.ref x), some (.ref so), some (.ref lam), some .none, some (mdP md), some .none, some (mdT md), a1, a2, a3, a4, a5, a6, a7, a8, a9, a10, a11, a12, a13, a14, a15, a16, a17, a18]

theorem EdgesAt.back {w : World} {h : Heap} {kvs : IKV} {es : List (Int × Int)} (x : EdgesAt w h kvs es) : ∀ {i : Nat} {u : Int} {v : Value}, kvs[i]? = some (u, v) → ∃ c d t, es[i]? = some (u, c) ∧ v = .ref d ∧ h.DictOf (SK w) d [("weight", .int c t)] ∧ (d == sysModules) = false := by
  induction x with
  | nil => intro i u v h; simp at h
  | cons a b _ ih =>
    intro i u v h
    cases i with
    | zero => simp at h; obtain ⟨rfl, rfl⟩ := h; exact ⟨_, _, _, rfl, rfl, a, b⟩
    | succ i => exact ih (by simpa using h)
theorem ik_int {w : World} {k : Int} {v : Value} (h : (IK w).is k v = true) : ∃ t, v = .int k t := by
  cases v with
  | int i t => exact ⟨t, by rw [(IK w).inj _ _ _ h (ik_is w i t)]⟩
  | _ => cases (show false = true from h)
theorem cw_l3 {M : Model} {A : Around} {E : Value → Shared → Prop} {s : Shared} {env : Env} {pos : Pos} {f : Addr} {e₁ e₂ e₃ : PySem.Expr} {Q : Value → Shared → Prop} (X : FnAt f s.heap)
    (h : wpAny M A (eval e₁ env) (fun v s₁ => wpAny M A (eval e₂ env) (fun u s₂ => wpAny M A (eval e₃ env) (fun x s₃ => FnAt f s₃.heap ∧ wpAny M A (call (.ref f) [v, u, x]) Q E s₃) E s₂) E s₁) E s)
    (he : starEach [e₁, e₂, e₃] env = (false, eval e₁ env) :: starEach [e₂, e₃] env := by rfl) (he2 : starEach [e₂, e₃] env = (false, eval e₂ env) :: starEach [e₃] env := by rfl) (he3 : starEach [e₃] env = (false, eval e₃ env) :: starEach [] env := by rfl) :
    wpAny M A (callWith pos (.ref f) [] (backTo pos (starEach [e₁, e₂, e₃] env)) []) Q E s :=
  callWith_F X (spliced_more (wpAny_mono h (fun v s₁ h₁ => spliced_more (wpAny_mono h₁ (fun u s₂ h₂ => spliced_more (wpAny_mono h₂ (fun u s₂ h₂ => spliced_none h₂) fun _ _ x => x) he3) fun _ _ x => x) he2) fun _ _ x => x) he) he (by rw [he2, he3]; rfl)
/-- what the search holds -/
abbrev djL (w : World) (cx cdx F Sn Dd : Addr) (cn : Int) (fr : Fri) (sm dm : MP) : List (Addr × Assn) := [(cx, ACnt cdx cn), (cdx, AFld w []), (F, AFr fr), (Sn, AIM w sm), (Dd, AIM w dm)]

/-- at the head of the search's loop -/
def DjTop (w : World) (adj : Int → List (Int × Int)) (n : Int) (D : Nat) (x so lam : Addr) (md : Md) (pd aa Dd Sn cx cdx F : Addr) (k : Nat) (vs : List (Option Value)) (l : List (Addr × Assn)) : Prop :=
  ∃ (c : Nat) (fr : Fri) (sm dm : MP) (pl : PL) (junk : List (Addr × Assn)) (b1 b2 b3 b4 b5 b6 b7 b8 b9 b10 b11 b12 : Option Value),
    vs = djV x so lam md (some (mdV pd md)) (some (.ref aa)) (some (.ref Dd)) (some (.ref Sn)) (some (.ref cx)) (some (.ref F)) b1 b2 b3 b4 b5 b6 b7 b8 b9 b10 b11 b12 ∧
    l = djL w cx cdx F Sn Dd c fr sm dm ++ (mdX w pd pl md ++ junk) ∧
    Hp fr ∧ Held junk fr pl ∧ Top adj dm sm (fr.map (·.2)) ∧ (md.isSome = true → PInv adj dm sm (plM pl)) ∧ Sz n.toNat D 0 c fr sm dm pl ∧ k = rem dm n.toNat * (n.toNat * D + 2) + fr.length
/-- in the loop over v's edges -/
def DjIn (w : World) (adj : Int → List (Int × Int)) (n : Int) (D : Nat) (x so lam : Addr) (md : Md) (pd aa Dd Sn cx cdx F : Addr) (v dv : Int) (vt dt : Tok) (dm : MP) (i : Nat) (vs : List (Option Value)) (l : List (Addr × Assn)) : Prop :=
  ∃ (c : Nat) (fr : Fri) (sm : MP) (pl : PL) (junk : List (Addr × Assn)) (b1 b2 b4 b6 b7 b8 b9 b10 b11 b12 : Option Value),
    vs = djV x so lam md (some (mdV pd md)) (some (.ref aa)) (some (.ref Dd)) (some (.ref Sn)) (some (.ref cx)) (some (.ref F)) b1 b2 (some (.int dv dt)) b4 (some (.int v vt)) b6 b7 b8 b9 b10 b11 b12 ∧
    l = djL w cx cdx F Sn Dd c fr sm dm ++ (mdX w pd pl md ++ junk) ∧
    Hp fr ∧ Held junk fr pl ∧ Inv adj v i dm sm (fr.map (·.2)) ∧ (md.isSome = true → PInv adj dm sm (plM pl)) ∧ Sz n.toNat D (D - i) c fr sm dm pl
/-- behind the loop -/
def DjEnd (w : World) (adj : Int → List (Int × Int)) (n : Int) (D : Nat) (x so lam : Addr) (md : Md) (pd aa Dd Sn cx cdx F : Addr) (vs : List (Option Value)) (l : List (Addr × Assn)) : Prop :=
  ∃ (c : Nat) (fr : Fri) (sm dm : MP) (pl : PL) (junk : List (Addr × Assn)) (b1 b2 b3 b4 b5 b6 b7 b8 b9 b10 b11 b12 : Option Value),
    vs = djV x so lam md (some (mdV pd md)) (some (.ref aa)) (some (.ref Dd)) (some (.ref Sn)) (some (.ref cx)) (some (.ref F)) b1 b2 b3 b4 b5 b6 b7 b8 b9 b10 b11 b12 ∧
    l = djL w cx cdx F Sn Dd c fr sm dm ++ (mdX w pd pl md ++ junk) ∧
    Held junk fr pl ∧ (∃ v i ks, Inv adj v i dm sm ks) ∧ (md.isSome = true → PInv adj dm sm (plM pl)) ∧ pl.length ≤ 600 ∧
    ((∀ x e, Way adj x e → (look dm x).isSome = true) ∨ ∃ p, md = some p ∧ (look dm p.tg).isSome = true)

theorem dij_spec {w : World} {A : Around} {R : Result → Shared → Prop} {h₀ : Heap} {L : Addr} {ns : List Str} {vs : List (Option Value)} {rest : List (Addr × Assn)} {b s : Shared} {x so lam : Addr} {n : Int} {D : Nat} {adj : Int → List (Int × Int)} {sn : Nat} {st : Tok} (md : Md)
    (S : St h₀ L ns vs (mdL w md ++ rest) b s) (W : Wd w h₀) (r : Rm A 12) (G : GrAt w (hideAll s.heap ((mdL w md).map (·.1))) x n adj) (GO : GOK adj n D) (hDz : D * n.toNat ≤ 500) (hNz : n.toNat ≤ 500)
    (hso : (hideAll s.heap ((mdL w md).map (·.1))).get? so = some (setO #[(0, .int 0 st)] sn (setT1 (!byT w)))) (hlam : LamAt w (hideAll s.heap ((mdL w md).map (·.1))) lam)
    (hpt : ∀ p, md = some p → p.tg ≠ 0 ∧ ∃ ee, Way adj p.tg ee)
    (kA : md = none → ∀ Dd dm s', St h₀ L ns vs ([(Dd, AIM w dm)] ++ rest) b s' → (∀ x d, look dm x = some d → Least adj x d) → (∀ x ee, Way adj x ee → ∃ d, look dm x = some d) → R (.ok (.ret (.ref Dd))) s')
    (kB : ∀ p, md = some p → ∀ Dd dm pa ys d s', St h₀ L ns vs ([(Dd, AIM w dm), (p.P, ADict (IK w) [(0, .ref p.sp), (p.tg, .ref pa)]), (pa, AIntL ys)] ++ rest) b s' → look dm p.tg = some d → Path adj ys p.tg d → Least adj p.tg d → R (.ok (.ret (.ref Dd))) s') :
    codeAny (model PySem.Challenge.pw_ab5042_01 w) A (.call (.ref 282) ⟨[.ref x, .ref so, .ref lam], mdKw md⟩) R s := by
  refine' callf S W djN [.ref x, .ref so, .ref lam, .none, mdP md, .none, mdT md] 18 (djV x so lam md none none none none none none none none none none none none none none none none none none) rfl (mdL w md) rest (fun p hp => List.mem_append_left _ hp) (fun p hp => List.mem_append_right _ hp) S.N.2 r ?k1 ?k2 ?k3 ?k4 ?k5 ?k6 ?k7 ?k8 rfl ?k9 ?_
  case k1 => k_is
  case k2 => exact rfl
  case k3 => exact rfl
  case k4 => k_is
  case k5 => decide +kernel
  case k6 => decide +kernel
  case k7 => exact rfl
  case k8 => exact rfl
  case k9 =>
    cases md with
    | none => exact binds_K (W.at S).X rfl (by k_is) rfl rfl rfl
    | some p => exact binds_K (W.at S).X rfl (by k_is) rfl rfl rfl
  intro L' s' S' e r' back
  have W1 := W.hide S (lm := mdL w md) (fun p hp => List.mem_append_left _ hp)
  clear S
  generalize hideAll s.heap ((mdL w md).map (·.1)) = h1 at *
  -- pred_dict = ..
  refine wpAny_execs_cons ?_
  refine wpAny_Assign_Name ?_
  refine wpAny_mono (Q := fun v s' => ∃ pd, v = mdV pd md ∧ St h1 L' djN (djV x so lam md none none none none none none none none none none none none none none none none none none) (mdX w pd [] md) s s') ?_ ?_ (fun _ _ x => x)
  · with_reducible refine wpAny_IfExp ?_
    refine isTrue_or ?_
    refine wpAny_isTrue_Compare1 ?_
    refine ld_i e S' 4 rfl rfl ?_
    refine wpAny_Constant_none ?_
    cases md with
    | none =>
      refine wpAny_is_self (by rfl) ?_
      with_reducible refine wpAny_truthy_bool ?_
      rw [if_pos rfl]
      rw [if_pos rfl]
      refine ld_i e S' 3 rfl rfl ?_
      exact ⟨0, rfl, S'⟩
    | some p =>
      refine wpAny_is_other (by rfl) (fun h => nomatch h) ?_
      with_reducible refine wpAny_truthy_bool ?_
      rw [if_neg (by decide)]
      refine isTrue_or ?_
      refine wpAny_isTrue_Compare1 ?_
      refine ld_i e S' 3 rfl rfl ?_
      refine wpAny_Constant_none ?_
      refine wpAny_isNot_self (by rfl) ?_
      with_reducible refine wpAny_truthy_bool ?_
      rw [if_neg (by decide)]
      refine isTrue_or_nil ?_
      rw [if_neg (by decide)]
      refine s_dictLit S' ?_
      intro pd s' S'
      exact ⟨pd, rfl, S'.mono (i := 0) rfl (empty_dict (IK w))⟩
  rintro v s' ⟨pd, rfl, S⟩
  clear S'
  refine st_i e S 7 rfl ?_
  clear S; intro s1 S
  obtain ⟨dx, ag, an, aa, ap, nkv, akv, I, hnd, hnlo, hnin, had, halo, hadj⟩ := G.ex
  refine wpAny_execs_cons ?_
  refine wpAny_Assign_Name ?_
  refine Attribute_any_ ?_
  refine ld_i e S 0 rfl rfl ?_
  refine s_attr none (.ref aa) S W1.X (I.keep S.F.keep) (by k_is) (by k_is) (by k_is) rfl rfl rfl ?_
  clear S; intro s1 S
  refine st_i e S 8 rfl ?_
  clear S; intro s1 S
  refine wpAny_execs_cons ?_
  refine wpAny_Assign_Name ?_
  refine s_dictLit S ?_
  clear S; intro Dd s1 S
  refine st_i e S 9 rfl ?_
  clear S; intro s1 S
  refine wpAny_execs_cons ?_
  refine wpAny_Assign_Name ?_
  refine s_dictLit S ?_
  clear S; intro Sn s1 S
  refine st_i e S 10 rfl ?_
  clear S; intro s1 S
  refine wpAny_execs_cons ?_
  refine wpAny_Assign_Name ?_
  refine Call_ ?_
  refine ld_g e W1 S (.ref 269) (by k_is) rfl ?_
  refine cw_f0 (W1.at S) (by k_is) ?_
  refine count_call S W1 (r'.le (by decide)) ?_
  clear S; intro cx cdx s1 S
  refine st_i e S 11 rfl ?_
  clear S; intro s1 S
  refine wpAny_execs_cons ?_
  refine wpAny_Assign_Name ?_
  refine s_list0 S ?_
  clear S; intro F s1 S
  refine st_i e S 12 rfl ?_
  clear S; intro s1 S
  replace S : St h1 L' djN (djV x so lam md (some (mdV pd md)) (some (.ref aa)) (some (.ref Dd)) (some (.ref Sn)) (some (.ref cx)) (some (.ref F)) none none none none none none none none none none none none) ([(F, AList []), (cx, ACnt cdx 0), (cdx, AFld w []), (Sn, AEmpty), (Dd, AEmpty)] ++ mdX w pd [] md) s s1 := S
  replace S := S.mono (i := 3) rfl (empty_aim w)
  replace S := S.mono (i := 4) rfl (empty_aim w)
  replace S := S.pick (pre := [_, _, _, _, _]) [1, 2, 0, 3, 4] rfl
  replace S : St h1 L' djN (djV x so lam md (some (mdV pd md)) (some (.ref aa)) (some (.ref Dd)) (some (.ref Sn)) (some (.ref cx)) (some (.ref F)) none none none none none none none none none none none none) (djL w cx cdx F Sn Dd 0 [] [] [] ++ (mdX w pd [] md ++ [])) s s1 := by
    rw [List.append_nil]; exact S
  -- for source in sources
  refine wpAny_execs_cons ?_
  refine wpAny_For ?_
  refine ld_i e S 1 rfl rfl ?_
  refine it_set0 S (S.F.keep _ _ hso) ?_
  clear S; intro it s1 S
  refine s_forSteps (fun i vs l => (i = 0 ∧ vs = djV x so lam md (some (mdV pd md)) (some (.ref aa)) (some (.ref Dd)) (some (.ref Sn)) (some (.ref cx)) (some (.ref F)) none none none none none none none none none none none none ∧ l = djL w cx cdx F Sn Dd 0 [] [] [] ++ (mdX w pd [] md ++ [])) ∨
      (i = 1 ∧ ∃ a src, vs = djV x so lam md (some (mdV pd md)) (some (.ref aa)) (some (.ref Dd)) (some (.ref Sn)) (some (.ref cx)) (some (.ref F)) (some src) none none none none none none none none none none none ∧ l = djL w cx cdx F Sn Dd 1 [(a, (0, 0, 0))] [(0, 0)] [] ++ (mdX w pd [] md ++ [(a, AK (0, 0, 0))])))
    (Steps.set0 r'.hh it so sn st (fun s o i Q E a b c => set_self a b c)) S (.inl ⟨rfl, rfl, rfl⟩) (fun i vs l s _ S => S.F.keep _ _ hso) ?_ ?_
  · rintro i v It' vs l s2 hi rfl hJ S
    have hi0 : i = 0 := by omega
    subst hi0
    rcases hJ with ⟨_, rfl, rfl⟩ | ⟨h, _⟩
    case inr => cases h
    refine wpAny_assign_Name ?_
    refine st_i e S 13 rfl ?_
    clear S; intro s2 S
    refine wpAny_execs_cons ?_
    refine wpAny_Assign_Subscript ?_
    with_reducible refine s_ci S ?_
    clear S; intro t1 s2 S
    refine ld_i e S 10 rfl rfl ?_
    refine ld_i e S 13 rfl rfl ?_
    refine s_mset S 4 rfl (by decide) ?_
    clear S; intro s2 S
    refine wpAny_execs_cons ?_
    refine wpAny_Expr ?_
    refine Call_ ?_
    refine ld_g e W1 S (.builtin "_heapq.heappush") (by k_is) rfl ?_
    refine cw_b2 ?_
    refine ld_i e S 12 rfl rfl ?_
    refine s_tuple3 ?_
    with_reducible refine s_ci S ?_
    clear S; intro t2 s2 S
    refine Call_ ?_
    refine ld_b e W1 S (.builtin "next") (by k_is) rfl (by boot_by_name) (by decide) ?_
    refine cw_b1 ?_
    refine ld_i e S 11 rfl rfl ?_
    refine s_nextI S W1 (r'.le (by decide)) 1 2 rfl rfl rfl ?_
    clear S; intro t3 s2 S
    refine ld_i e S 13 rfl rfl ?_
    with_reducible refine s_newTuple S rfl ?_
    clear S; intro a s2 S
    replace S : St h1 L' djN (djV x so lam md (some (mdV pd md)) (some (.ref aa)) (some (.ref Dd)) (some (.ref Sn)) (some (.ref cx)) (some (.ref F)) (some (.int 0 st)) none none none none none none none none none none none)
      ((a, ATup [.int 0 t2, .int 0 t3, .int 0 st]) :: (it, It') :: (djL w cx cdx F Sn Dd 1 [] [(0, 0)] [] ++ (mdX w pd [] md ++ []))) s s2 := S
    replace S := S.mono (i := 0) (P' := AK (0, 0, 0)) rfl (fun o h => ⟨t2, t3, st, h⟩)
    refine s_push (p := (a, (0, 0, 0))) S (by have := r'.uni; show _ < 9900; omega) 4 rfl (fun p hp => nomatch hp) List.mem_cons_self (fun j _ hj => absurd hj (by simp)) (by decide) ?_
    clear S; intro fr' s2 hP hH S
    have hfr : fr' = [(a, (0, 0, 0))] := List.perm_singleton.mp hP
    subst hfr
    refine wpAny_execs_nil ?_
    refine ⟨_, _, .inr ⟨rfl, a, .int 0 st, rfl, rfl⟩, ?_⟩
    exact St.sink (pre := djL w cx cdx F Sn Dd 1 [(a, (0, 0, 0))] [(0, 0)] []) S
  · rintro vs l s2 hJ S
    rcases hJ with ⟨h, _⟩ | ⟨_, a, src, rfl, rfl⟩
    · cases h
    refine wpAny_execs_cons ?_
    refine wpAny_Assign_Name ?_
    refine Call_ ?_
    refine ld_b e W1 S (.builtin "len") (by k_is) rfl (by boot_by_name) (by decide) ?_
    refine cw_b1 ?_
    refine ld_i e S 10 rfl rfl ?_
    refine s_mlen S 3 rfl (by decide) ?_
    clear S; intro t1 s2 S
    refine st_i e S 14 rfl ?_
    clear S; intro s2 S
    refine wpAny_execs_cons ?_
    have S' : St h1 L' djN (djV x so lam md (some (mdV pd md)) (some (.ref aa)) (some (.ref Dd)) (some (.ref Sn)) (some (.ref cx)) (some (.ref F)) (some src) (some (.int 1 t1)) none none none none none none none none none none)
      (djL w cx cdx F Sn Dd (1 : Nat) [(a, (0, 0, 0))] [(0, 0)] [] ++ (mdX w pd [] md ++ [(a, AK (0, 0, 0))])) s s2 := S
    clear S
    -- the state of the search
    refine wpAny_mono (Q := fun f s' => f = .next ∧ ∃ vs l, DjEnd w adj n D x so lam md pd aa Dd Sn cx cdx F vs l ∧ St h1 L' djN vs l s s') ?_ ?_ (fun _ _ x => x)
    · refine s_while (DjTop w adj n D x so lam md pd aa Dd Sn cx cdx F) _ S' ⟨1, [(a, (0, 0, 0))], [(0, 0)], [], [], [(a, AK (0, 0, 0))], _, _, _, _, _, _, _, _, _, _, _, _, rfl, rfl, ?_, ?_, inv_start, fun _ => pinv_start, ?_, rfl⟩ ?_
      · intro j j0 hj; simp at hj; omega
      · exact ⟨fun p hp => by simp at hp; subst hp; simp, fun u hu => nomatch hu⟩
      · exact ⟨by rw [rem_nil]; omega, by simp, by simp, by simp, by rw [rem_nil]; simp⟩
      · clear S'
        rintro k vs l s2 ⟨c, fr, sm, dm, pl, junk, b1, b2, b3, b4, b5, b6, b7, b8, b9, b10, b11, b12, rfl, rfl, hH, hHeld, hTop, hP, hSz, rfl⟩ S
        have hcl := hSz.c_le
        have hND : n.toNat * D ≤ 500 := by rw [Nat.mul_comm]; exact hDz
        have hfl := hSz.h2
        refine isTrue_plain ?_
        refine ld_i e S 12 rfl rfl ?_
        refine s_truthy_list S (S.lst (i := 2) (xs := fr.map fun p => .ref p.1) rfl) (by simp; omega) ?_
        clear S; intro s2 S
        cases hfr : fr with
        | nil =>
          subst hfr
          refine ⟨rfl, _, _, ⟨c, [], sm, dm, pl, junk, _, _, _, _, _, _, _, _, _, _, _, _, rfl, rfl, hHeld, ⟨_, _, _, hTop.1⟩, hP, by have := hSz.h4; omega, .inl fun x ee h => ?_⟩, S⟩
          obtain ⟨d, hd, _⟩ := inv_end GO hTop h
          rw [hd]; rfl
        | cons q0 fr0 =>
          rw [← hfr]
          have hne : fr ≠ [] := by rw [hfr]; simp
          simp only [hfr, List.map_cons, List.isEmpty_cons, Bool.not_false, if_true]
          rw [← hfr]
          refine wpAny_execs_cons ?_
          refine Assign_Tuple ?_
          refine Call_ ?_
          refine ld_g e W1 S (.builtin "_heapq.heappop") (by k_is) rfl ?_
          refine cw_b1 ?_
          refine ld_i e S 12 rfl rfl ?_
          refine s_pop (fr := fr) S (by have := r'.uni; show _ < 9900; omega) 2 rfl (fun p hp => List.mem_append_right _ (List.mem_append_right _ (hHeld.f p hp))) hH hne (by omega) ?_
          clear S; intro p fr' s2 hPm hmin hH' S
          have hpm : p ∈ fr := hPm.mem_iff.mp List.mem_cons_self
          obtain ⟨op, hop, t1, t2, t3, hcp, m0, hdp⟩ := S.mem (a := p.1) (P := AK p.2) (List.mem_append_right (djL w cx cdx F Sn Dd c fr' sm dm) (List.mem_append_right _ (hHeld.f p hpm)))
          refine s_unpack (xs := [.int p.2.1 t1, .int p.2.2.1 t2, .int p.2.2.2 t3]) S r'.hh ⟨op, hop, hcp, m0, hdp⟩ rfl rfl ?_
          clear S; intro s2 S
          refine assignInOrder_cons ?_
          refine wpAny_assign_Name (st_i e S 15 rfl ?_)
          clear S; intro s2 S
          refine assignInOrder_cons ?_
          refine wpAny_assign_Name (st_i e S 16 rfl ?_)
          clear S; intro s2 S
          refine assignInOrder_cons ?_
          refine wpAny_assign_Name (st_i e S 17 rfl ?_)
          clear S; intro s2 S
          refine assignInOrder_nil ?_
          obtain ⟨pa, dv, pn, v⟩ := p
          have hmem : ∀ y, y ∈ fr.map (·.2) ↔ y = (dv, pn, v) ∨ y ∈ fr'.map (·.2) := fun y => by
            have := (hPm.map (·.2)).mem_iff (a := y)
            rw [← this]; simp
          have hlen : fr'.length + 1 = fr.length := by rw [← hPm.length_eq]; rfl
          have hHeld' : Held junk fr' pl := ⟨fun q hq => hHeld.f q (hPm.mem_iff.mp (List.mem_cons_of_mem _ hq)), hHeld.p⟩
          -- if v in dist: continue
          refine wpAny_execs_cons ?_
          with_reducible refine wpAny_If ?_
          refine wpAny_isTrue_Compare1 ?_
          refine ld_i e S 17 rfl rfl ?_
          refine ld_i e S 9 rfl rfl ?_
          refine s_min (m := dm) S 4 rfl ?_
          clear S; intro s2 S
          with_reducible refine wpAny_truthy_bool ?_
          cases hv : look dm v with
          | some dv0 =>
            rw [if_pos (by simp)]
            refine wpAny_execs_cons (wpAny_Continue ?_)
            refine ⟨rem dm n.toNat * (n.toNat * D + 2) + fr'.length, _, _, by omega, ⟨c, fr', sm, dm, pl, junk, _, _, _, _, _, _, _, _, _, _, _, _, rfl, rfl, hH', hHeld', inv_skip hTop hmem (by rw [hv]; rfl), hP, ⟨hSz.h1, by have := hSz.h2; omega, hSz.h3, hSz.h4, hSz.h5⟩, rfl⟩, S⟩
          | none =>
            rw [if_neg (by simp)]
            refine wpAny_execs_nil ?_
            obtain ⟨hInv, hz0, hLe⟩ := inv_pop GO hTop hmem (fun y hy => by
              obtain ⟨q, hq, rfl⟩ := List.mem_map.mp hy
              exact le3_fst (hmin q hq)) hv
            have hvr := hLe.1.rng GO
            have hrem := rem_put (d := dv) hvr.1 hv (N := n.toNat) (by have := hvr.2.1; omega)
            have hdl : dm.length ≤ 500 := by have := hSz.h5; omega
            -- dist[v] = dist_v
            refine wpAny_execs_cons ?_
            refine wpAny_Assign_Subscript ?_
            refine ld_i e S 15 rfl rfl ?_
            refine ld_i e S 9 rfl rfl ?_
            refine ld_i e S 17 rfl rfl ?_
            refine s_mset (m := dm) S 4 rfl (by omega) ?_
            clear S; intro s2 S
            generalize hdm' : put dm v dv = dm' at *
            have hdm2 : dm'.length + rem dm' n.toNat = n.toNat := by
              have h5 := hSz.h5
              rw [← hdm', put_new hv, List.length_append, List.length_singleton, ← put_new hv (v := dv), hdm']
              omega
            have hP' : md.isSome = true → PInv adj dm' sm (plM pl) := fun h => by rw [← hdm']; exact pinv_pop (hP h) hv
            have hvd : look dm' v = some dv := by rw [← hdm', look_put, if_pos rfl]
            have hbud : c + rem dm' n.toNat * D + D ≤ 1 + n.toNat * D := by
              have h1 := hSz.h1
              rw [← hrem, Nat.add_mul, Nat.one_mul] at h1
              omega
            have hmul : rem dm n.toNat * (n.toNat * D + 2) = rem dm' n.toNat * (n.toNat * D + 2) + (n.toNat * D + 2) := by rw [← hrem, Nat.add_mul, Nat.one_mul]
            -- if v == target: break
            refine wpAny_execs_cons ?_
            refine wpAny_mono (Q := fun f s' => (f = .next ∨ f = .brk ∧ ∃ p, md = some p ∧ p.tg = v) ∧ St h1 L' djN (djV x so lam md (some (mdV pd md)) (some (.ref aa)) (some (.ref Dd)) (some (.ref Sn)) (some (.ref cx)) (some (.ref F)) b1 b2 (some (.int dv t1)) (some (.int pn t2)) (some (.int v t3)) b6 b7 b8 b9 b10 b11 b12) (djL w cx cdx F Sn Dd c fr' sm dm' ++ (mdX w pd pl md ++ junk)) s s') ?_ ?_ (fun _ _ x => x)
            · with_reducible refine wpAny_If ?_
              refine wpAny_isTrue_Compare1 ?_
              refine ld_i e S 17 rfl rfl ?_
              refine ld_i e S 6 rfl rfl ?_
              cases hmd : md with
              | none =>
                subst hmd
                refine PySem.EqNone.eq_int_none ?_
                with_reducible refine wpAny_truthy_bool ?_
                rw [if_neg (by simp)]
                refine wpAny_execs_nil ?_
                exact ⟨.inl rfl, S⟩
              | some q =>
                subst hmd
                refine eq_int (b := q.tg) (u := q.tt) ?_
                with_reducible refine wpAny_truthy_bool ?_
                by_cases hq : v = q.tg
                · rw [if_pos (by simpa using hq)]
                  refine wpAny_execs_cons (wpAny_Break ?_)
                  exact ⟨.inr ⟨rfl, q, rfl, hq.symm⟩, S⟩
                · rw [if_neg (by simpa using hq)]
                  refine wpAny_execs_nil ?_
                  exact ⟨.inl rfl, S⟩
            rintro f s3 ⟨hf, S3⟩
            clear S
            rcases hf with rfl | ⟨rfl, q, hq, hqt⟩
            case inr =>
              refine ⟨trivial, _, _, ⟨c, fr', sm, dm', pl, junk, _, _, _, _, _, _, _, _, _, _, _, _, rfl, rfl, hHeld', ⟨_, _, _, hInv⟩, hP', by have := hSz.h4; omega, .inr ⟨q, hq, by rw [hqt, hvd]; rfl⟩⟩, S3⟩
            -- for u, e in G_succ[v].items()
            obtain ⟨sa, ekv, hsa, hse, hslo, hedges⟩ := hadj v hvr.1 hvr.2.1
            have helen := hedges.length
            have hdeg := GO.deg v hvr.1 hvr.2.1
            refine wpAny_execs_cons ?_
            refine wpAny_For ?_
            refine MethodCall_ ?_
            with_reducible refine Subscript_ ?_
            refine ld_i e S3 8 rfl rfl ?_
            refine ld_i e S3 17 rfl rfl ?_
            refine s_ditemT S3 (dict_keep had S3.F.keep) (ik_is w v t3) hsa ?_
            clear S3; intro s3 S3
            refine s_dmeth PySem.F.slot_dict_items PySem.F.type_dict_items (dict_keep hse S3.F.keep) ?_
            refine cw_m0 ?_
            refine s_ditems S3 (dict_keep hse S3.F.keep) hslo ?_
            clear S3; intro vw s3 S3
            refine s_forItems (DjIn w adj n D x so lam md pd aa Dd Sn cx cdx F v dv t3 t1 dm') S3 e r'.hh ⟨c, fr', sm, pl, junk, _, _, _, _, _, _, _, _, _, _, rfl, rfl, hH', hHeld', hInv, hP', ⟨by omega, by have := hSz.h2; omega, hSz.h3, hSz.h4, hdm2⟩⟩ hse 18 19 rfl rfl ?_ ?_
            · rintro i u ev key it It vs l s4 hi hkey ⟨c', fr2, sm2, pl2, junk2, d1, d2, d4, d6, d7, d8, d9, d10, d11, d12, rfl, rfl, hH2, hHeld2, hInv2, hP2, hSz2⟩ S4
              clear S3
              obtain ⟨ut, rfl⟩ := ik_int hkey
              obtain ⟨cc, ed, ct, hj, rfl, hed, hedlo⟩ := hedges.back hi
              have hilt : i < (adj v).length := (List.getElem?_eq_some_iff.mp hj).1
              have hc2 := hSz2.c_le
              have hf2 := hSz2.h2
              have hs2 := hSz2.h3
              have hp2 := hSz2.h4
              have hcc := (GO.ok v hvr.1 hvr.2.1 _ (List.mem_of_getElem? hj)).2.2
              -- cost = weight(v, u, e)
              refine wpAny_execs_cons ?_
              refine wpAny_Assign_Name ?_
              refine Call_ ?_
              refine ld_i e S4 2 rfl rfl ?_
              refine cw_l3 (hlam.keep S4.F.keep).1 ?_
              refine ld_i e S4 17 rfl rfl ?_
              refine ld_i e S4 18 rfl rfl ?_
              refine ld_i e S4 19 rfl rfl ?_
              refine ⟨(hlam.keep S4.F.keep).1, wpAny_call ?_⟩
              refine hlam.2 s4 _ _ _ _ ed cc ct S4.F.keep (W1.at S4) (r'.le (by decide)) hedlo (dict_keep hed S4.F.keep) ?_
              intro s5 K
              replace S4 := S4.after K
              clear K
              refine st_i e S4 20 rfl ?_
              clear S4; intro s4 S4
              -- if cost is None
              refine wpAny_execs_cons ?_
              with_reducible refine wpAny_If ?_
              refine wpAny_isTrue_Compare1 ?_
              refine ld_i e S4 20 rfl rfl ?_
              refine wpAny_Constant_none ?_
              refine wpAny_is_other (by rfl) (fun h => nomatch h) ?_
              with_reducible refine wpAny_truthy_bool ?_
              rw [if_neg (by decide)]
              refine wpAny_execs_nil ?_
              -- vu_dist = dist_v + cost
              refine wpAny_execs_cons ?_
              refine wpAny_Assign_Name ?_
              with_reducible refine wpAny_BinOp ?_
              refine ld_i e S4 15 rfl rfl ?_
              refine ld_i e S4 20 rfl rfl ?_
              with_reducible refine s_add S4 ?_
              clear S4; intro t4 s4 S4
              refine st_i e S4 21 rfl ?_
              clear S4; intro s4 S4
              -- if cutoff is not None and ..
              refine wpAny_execs_cons ?_
              with_reducible refine wpAny_If ?_
              refine isTrue_and ?_
              refine wpAny_isTrue_Compare1 ?_
              refine ld_i e S4 5 rfl rfl ?_
              refine wpAny_Constant_none ?_
              refine wpAny_isNot_self (by rfl) ?_
              with_reducible refine wpAny_truthy_bool ?_
              rw [if_neg (by decide)]
              rw [if_neg (by decide)]
              refine wpAny_execs_nil ?_
              replace S4 : St h1 L' djN (djV x so lam md (some (mdV pd md)) (some (.ref aa)) (some (.ref Dd)) (some (.ref Sn)) (some (.ref cx)) (some (.ref F)) d1 d2 (some (.int dv t1)) d4 (some (.int v t3)) (some (.int u ut)) (some (.ref ed)) (some (.int cc ct)) (some (.int (dv + cc) t4)) d10 d11 d12)
                ((it, It) :: (djL w cx cdx F Sn Dd c' fr2 sm2 dm' ++ (mdX w pd pl2 md ++ junk2))) s s4 := S4
              -- if u in dist
              refine wpAny_execs_cons ?_
              with_reducible refine wpAny_If ?_
              refine wpAny_isTrue_Compare1 ?_
              refine ld_i e S4 18 rfl rfl ?_
              refine ld_i e S4 9 rfl rfl ?_
              refine s_min (m := dm') S4 5 rfl ?_
              clear S4; intro s4 S4
              with_reducible refine wpAny_truthy_bool ?_
              cases hu : look dm' u with
              | some ud =>
                rw [if_pos (by simp)]
                have hle := inv_edge_le hInv2 hvd hj hu
                refine wpAny_execs_cons ?_
                refine wpAny_Assign_Name ?_
                with_reducible refine Subscript_ ?_
                refine ld_i e S4 9 rfl rfl ?_
                refine ld_i e S4 18 rfl rfl ?_
                refine s_mitem S4 5 rfl hu ?_
                clear S4; intro t5 s4 S4
                refine st_i e S4 22 rfl ?_
                clear S4; intro s4 S4
                refine wpAny_execs_cons ?_
                with_reducible refine wpAny_If ?_
                refine wpAny_isTrue_Compare1 ?_
                refine ld_i e S4 21 rfl rfl ?_
                refine ld_i e S4 22 rfl rfl ?_
                with_reducible refine lt_int ?_
                with_reducible refine wpAny_truthy_bool ?_
                rw [if_neg (by simp; omega)]
                refine wpAny_execs_cons ?_
                with_reducible refine wpAny_If ?_
                refine isTrue_and ?_
                refine wpAny_isTrue_Compare1 ?_
                refine ld_i e S4 3 rfl rfl ?_
                refine wpAny_Constant_none ?_
                refine wpAny_isNot_self (by rfl) ?_
                with_reducible refine wpAny_truthy_bool ?_
                rw [if_neg (by decide)]
                rw [if_neg (by decide)]
                refine wpAny_execs_nil ?_
                refine wpAny_execs_nil ?_
                refine wpAny_execs_nil ?_
                refine wpAny_execs_nil ?_
                refine ⟨_, _, ⟨c', fr2, sm2, pl2, junk2, _, _, _, _, _, _, _, _, _, _, rfl, rfl, hH2, hHeld2, inv_edge_old hInv2 hj (by rw [hu]; rfl), hP2, ⟨?_, hSz2.h2, hSz2.h3, hSz2.h4, hSz2.h5⟩⟩, S4⟩
                have := hSz2.h1
                omega
              | none =>
                rw [if_neg (by simp)]
                -- elif u not in seen or vu_dist < seen[u]
                refine wpAny_execs_cons ?_
                refine wpAny_mono (Q := fun f s' => f = .next ∧ ∃ vs' l', DjIn w adj n D x so lam md pd aa Dd Sn cx cdx F v dv t3 t1 dm' (i + 1) vs' l' ∧ St h1 L' djN vs' ((it, It) :: l') s s') ?_ ?_ (fun _ _ x => x)
                · with_reducible refine wpAny_If ?_
                  refine wpAny_mono (Q := fun bb s' => (bb = true → ∀ su, look sm2 u = some su → dv + cc < su) ∧ (bb = false → ∃ su, look sm2 u = some su ∧ ¬ dv + cc < su) ∧ St h1 L' djN (djV x so lam md (some (mdV pd md)) (some (.ref aa)) (some (.ref Dd)) (some (.ref Sn)) (some (.ref cx)) (some (.ref F)) d1 d2 (some (.int dv t1)) d4 (some (.int v t3)) (some (.int u ut)) (some (.ref ed)) (some (.int cc ct)) (some (.int (dv + cc) t4)) d10 d11 d12)
                      ((it, It) :: (djL w cx cdx F Sn Dd c' fr2 sm2 dm' ++ (mdX w pd pl2 md ++ junk2))) s s') ?_ ?_ (fun _ _ x => x)
                  · refine isTrue_or ?_
                    refine wpAny_isTrue_Compare1 ?_
                    refine ld_i e S4 18 rfl rfl ?_
                    refine ld_i e S4 10 rfl rfl ?_
                    refine s_mnotin (m := sm2) S4 4 rfl ?_
                    clear S4; intro s4 S4
                    with_reducible refine wpAny_truthy_bool ?_
                    cases hs : look sm2 u with
                    | none =>
                      rw [if_pos (by simp)]
                      exact ⟨fun _ su h => (nomatch h), fun h => (nomatch h), S4⟩
                    | some su =>
                      rw [if_neg (by simp)]
                      refine isTrue_or ?_
                      refine wpAny_isTrue_Compare1 ?_
                      refine ld_i e S4 21 rfl rfl ?_
                      with_reducible refine Subscript_ ?_
                      refine ld_i e S4 10 rfl rfl ?_
                      refine ld_i e S4 18 rfl rfl ?_
                      refine s_mitem S4 4 rfl hs ?_
                      clear S4; intro t5 s4 S4
                      with_reducible refine lt_int ?_
                      with_reducible refine wpAny_truthy_bool ?_
                      by_cases hlt : dv + cc < su
                      · rw [if_pos (by simpa using hlt)]
                        exact ⟨fun _ su' h => (by cases h; exact hlt), fun h => (nomatch h), S4⟩
                      · rw [if_neg (by simpa using hlt)]
                        refine isTrue_or_nil ?_
                        exact ⟨fun h => (nomatch h), fun _ => ⟨su, rfl, hlt⟩, S4⟩
                  · rintro bb s5 ⟨hb1, hb2, S5⟩
                    clear S4
                    cases bb with
                    | false =>
                      obtain ⟨su, hs, hnl⟩ := hb2 rfl
                      simp only [Bool.false_eq_true, if_false]
                      refine wpAny_execs_cons ?_
                      with_reducible refine wpAny_If ?_
                      refine isTrue_and ?_
                      refine wpAny_isTrue_Compare1 ?_
                      refine ld_i e S5 3 rfl rfl ?_
                      refine wpAny_Constant_none ?_
                      refine wpAny_isNot_self (by rfl) ?_
                      with_reducible refine wpAny_truthy_bool ?_
                      rw [if_neg (by decide)]
                      rw [if_neg (by decide)]
                      refine wpAny_execs_nil ?_
                      refine wpAny_execs_nil ?_
                      refine ⟨rfl, _, _, ⟨c', fr2, sm2, pl2, junk2, _, _, _, _, _, _, _, _, _, _, rfl, rfl, hH2, hHeld2, inv_edge_skip hInv2 hvd hj hu hs hnl, hP2, ⟨?_, hSz2.h2, hSz2.h3, hSz2.h4, hSz2.h5⟩⟩, S5⟩
                      have := hSz2.h1
                      omega
                    | true =>
                      have hlt := hb1 rfl
                      simp only [if_true]
                      have hkz : c' ≤ 501 := by omega
                      -- seen[u] = vu_dist
                      refine wpAny_execs_cons ?_
                      refine wpAny_Assign_Subscript ?_
                      refine ld_i e S5 21 rfl rfl ?_
                      refine ld_i e S5 10 rfl rfl ?_
                      refine ld_i e S5 18 rfl rfl ?_
                      refine s_mset (m := sm2) S5 4 rfl (by omega) ?_
                      clear S5; intro s5 S5
                      -- heappush(fringe, (vu_dist, next(c), u))
                      refine wpAny_execs_cons ?_
                      refine wpAny_Expr ?_
                      refine Call_ ?_
                      refine ld_g e W1 S5 (.builtin "_heapq.heappush") (by k_is) rfl ?_
                      refine cw_b2 ?_
                      refine ld_i e S5 12 rfl rfl ?_
                      refine s_tuple3 ?_
                      refine ld_i e S5 21 rfl rfl ?_
                      refine Call_ ?_
                      refine ld_b e W1 S5 (.builtin "next") (by k_is) rfl (by boot_by_name) (by decide) ?_
                      refine cw_b1 ?_
                      refine ld_i e S5 11 rfl rfl ?_
                      refine s_nextI S5 W1 (r'.le (by decide)) 1 2 rfl rfl rfl ?_
                      clear S5; intro t6 s5 S5
                      refine ld_i e S5 18 rfl rfl ?_
                      with_reducible refine s_newTuple S5 rfl ?_
                      clear S5; intro ta s5 S5
                      replace S5 : St h1 L' djN (djV x so lam md (some (mdV pd md)) (some (.ref aa)) (some (.ref Dd)) (some (.ref Sn)) (some (.ref cx)) (some (.ref F)) d1 d2 (some (.int dv t1)) d4 (some (.int v t3)) (some (.int u ut)) (some (.ref ed)) (some (.int cc ct)) (some (.int (dv + cc) t4)) d10 d11 d12)
                        ((ta, ATup [.int (dv + cc) t4, .int c' t6, .int u ut]) :: (it, It) :: (djL w cx cdx F Sn Dd (c' + 1) fr2 (put sm2 u (dv + cc)) dm' ++ (mdX w pd pl2 md ++ junk2))) s s5 := S5
                      replace S5 := S5.mono (i := 0) (P' := AK (dv + cc, c', u)) rfl (fun o h => ⟨t4, t6, ut, h⟩)
                      refine s_push (fr := fr2) (p := (ta, (dv + cc, (c' : Int), u))) S5 (by have := r'.uni; show _ < 9900; omega) 4 rfl (fun p hp => List.mem_cons_of_mem _ (List.mem_cons_of_mem _ (List.mem_append_right _ (List.mem_append_right _ (hHeld2.f p hp))))) List.mem_cons_self hH2 (by omega) ?_
                      clear S5; intro fr3 s5 hP3 hH3 S5
                      replace S5 := St.sink (pre := djL w cx cdx F Sn Dd (c' + 1) fr3 (put sm2 u (dv + cc)) dm') S5
                      have hmem3 : ∀ y, y ∈ fr3.map (·.2) ↔ y = (dv + cc, (c' : Int), u) ∨ y ∈ fr2.map (·.2) := fun y => by
                        have := (hP3.map (·.2)).mem_iff (a := y)
                        rw [this]; simp [or_comm]
                      have hInv3 := inv_edge_push hInv2 hvd hj hu hlt (c' : Int) hmem3
                      have hlen3 : fr3.length = fr2.length + 1 := by rw [hP3.length_eq]; simp
                      have hput := put_length sm2 u (dv + cc)
                      have hHeld3 : Held ((ta, AK (dv + cc, (c' : Int), u)) :: junk2) fr3 pl2 := by
                        refine ⟨fun p hp => ?_, fun q hq => List.mem_cons_of_mem _ (hHeld2.p q hq)⟩
                        rcases List.mem_append.mp (hP3.mem_iff.mp hp) with h | h
                        · exact List.mem_cons_of_mem _ (hHeld2.f p h)
                        · rw [List.mem_singleton.mp h]; exact List.mem_cons_self
                      -- if pred_dict is not None
                      refine wpAny_execs_cons ?_
                      with_reducible refine wpAny_If ?_
                      refine wpAny_isTrue_Compare1 ?_
                      refine ld_i e S5 7 rfl rfl ?_
                      refine wpAny_Constant_none ?_
                      have hh1 := hSz2.h1
                      have hdi : D - i = (D - (i + 1)) + 1 := by omega
                      cases md with
                      | none =>
                        refine wpAny_isNot_self (by rfl) ?_
                        with_reducible refine wpAny_truthy_bool ?_
                        rw [if_neg (by decide)]
                        refine wpAny_execs_nil ?_
                        refine wpAny_execs_nil ?_
                        refine ⟨rfl, _, _, ⟨c' + 1, fr3, put sm2 u (dv + cc), pl2, (ta, AK (dv + cc, (c' : Int), u)) :: junk2, _, _, _, _, _, _, _, _, _, _, rfl, rfl, hH3, hHeld3, hInv3, (fun h => nomatch h), ⟨by omega, by omega, by omega, by omega, hSz2.h5⟩⟩, S5⟩
                      | some q =>
                        refine wpAny_isNot_other (by rfl) (fun h => nomatch h) ?_
                        with_reducible refine wpAny_truthy_bool ?_
                        rw [if_pos rfl]
                        refine wpAny_execs_cons ?_
                        refine wpAny_Assign_Subscript ?_
                        refine s_list1 ?_
                        refine ld_i e S5 17 rfl rfl ?_
                        with_reducible refine s_newList S5 rfl ?_
                        clear S5; intro la s5 S5
                        refine ld_i e S5 7 rfl rfl ?_
                        refine ld_i e S5 18 rfl rfl ?_
                        obtain ⟨od, hod, hdd⟩ := S5.at (i := 7) (a := pd) (P := ADict (IK w) (plKv pl2)) rfl
                        have hnd2 : (pl2.map (·.1)).Nodup := by
                          have := ADict.nodup hdd
                          rwa [plKv, List.map_map] at this
                        refine s_dset (kvs := plKv pl2) S5 7 rfl (ik_is w u ut) (by simp [plKv]; omega) ?_
                        clear S5; intro s5 S5
                        rw [← plPut_Kv pl2 hnd2] at S5
                        replace S5 : St h1 L' djN (djV x so lam (some q) (some (mdV pd (some q))) (some (.ref aa)) (some (.ref Dd)) (some (.ref Sn)) (some (.ref cx)) (some (.ref F)) d1 d2 (some (.int dv t1)) d4 (some (.int v t3)) (some (.int u ut)) (some (.ref ed)) (some (.int cc ct)) (some (.int (dv + cc) t4)) d10 d11 d12)
                          ((la, AList [.int v t3]) :: (it, It) :: (djL w cx cdx F Sn Dd (c' + 1) fr3 (put sm2 u (dv + cc)) dm' ++ (mdX w pd (plPut pl2 u la v) (some q) ++ ((ta, AK (dv + cc, (c' : Int), u)) :: junk2)))) s s5 := S5
                        replace S5 := S5.mono (i := 0) (P' := AOne v) rfl (fun o h => ⟨t3, h⟩)
                        replace S5 := St.sink (pre := djL w cx cdx F Sn Dd (c' + 1) fr3 (put sm2 u (dv + cc)) dm') S5
                        have hHeld4 : Held ((la, AOne v) :: (ta, AK (dv + cc, (c' : Int), u)) :: junk2) fr3 (plPut pl2 u la v) := by
                          refine ⟨fun p hp => List.mem_cons_of_mem _ (hHeld3.f p hp), fun y hy => ?_⟩
                          rcases plPut_mem hy with h | ⟨h1, h2⟩
                          · exact List.mem_cons_of_mem _ (hHeld3.p y h)
                          · rw [h1, h2]; exact List.mem_cons_self
                        have hP4 : PInv adj dm' (put sm2 u (dv + cc)) (plM (plPut pl2 u la v)) := by
                          rw [plPut_M]
                          exact pinv_push (hP2 rfl) hvd (List.mem_of_getElem? hj) hu hz0
                        have hpl := plPut_length pl2 u la v
                        refine wpAny_execs_nil ?_
                        refine wpAny_execs_nil ?_
                        refine ⟨rfl, _, _, ⟨c' + 1, fr3, put sm2 u (dv + cc), plPut pl2 u la v, (la, AOne v) :: (ta, AK (dv + cc, (c' : Int), u)) :: junk2, _, _, _, _, _, _, _, _, _, _, rfl, rfl, hH3, hHeld4, hInv3, (fun _ => hP4), ⟨by omega, by omega, by omega, by omega, hSz2.h5⟩⟩, S5⟩
                · rintro f s5 ⟨rfl, h⟩
                  exact wpAny_execs_nil (wpAny_execs_nil h)
            · rintro vs l s4 ⟨c', fr2, sm2, pl2, junk2, d1, d2, d4, d6, d7, d8, d9, d10, d11, d12, rfl, rfl, hH2, hHeld2, hInv2, hP2, hSz2⟩ S4
              refine wpAny_execs_nil ?_
              have hTop2 := inv_finish hInv2 (by rw [helen]; exact Nat.le_refl _) hz0
              have hc2 := hSz2.c_le
              have hf2 := hSz2.h2
              refine ⟨rem dm' n.toNat * (n.toNat * D + 2) + fr2.length, _, _, by omega, ⟨c', fr2, sm2, dm', pl2, junk2, _, _, _, _, _, _, _, _, _, _, _, _, rfl, rfl, hH2, hHeld2, hTop2, hP2, ⟨?_, hSz2.h2, hSz2.h3, hSz2.h4, hSz2.h5⟩, rfl⟩, S4⟩
              have := hSz2.h1
              omega
    · rintro f s2 ⟨rfl, vs, l, ⟨c, fr, sm, dm, pl, junk, b1, b2, b3, b4, b5, b6, b7, b8, b9, b10, b11, b12, rfl, rfl, hHeld, ⟨v, i, ks, hInv⟩, hP, hplz, hfin⟩, S⟩
      clear S'
      refine wpAny_execs_cons ?_
      with_reducible refine wpAny_If ?_
      refine wpAny_isTrue_Compare1 ?_
      refine ld_i e S 4 rfl rfl ?_
      refine wpAny_Constant_none ?_
      cases md with
      | none =>
        refine wpAny_isNot_self (by rfl) ?_
        with_reducible refine wpAny_truthy_bool ?_
        rw [if_neg (by decide)]
        refine wpAny_execs_nil ?_
        refine wpAny_execs_cons (wpAny_Return_some ?_)
        refine ld_i e S 9 rfl rfl ?_
        refine kA rfl Dd dm s2 ?_ (fun x d h => (hInv.i2 x d h).1) (fun x ee h => ?_)
        · exact back _ [(Dd, AIM w dm)] _ (St.sub (S.pick (pre := [_, _, _, _, _]) [4] rfl) (List.sublist_append_left _ _))
        · rcases hfin with hf | ⟨p, hp, _⟩
          · exact Option.isSome_iff_exists.mp (hf x ee h)
          · cases hp
      | some p =>
        obtain ⟨htg, ee, hee⟩ := hpt p rfl
        have hreach : ∃ dt, look dm p.tg = some dt := by
          rcases hfin with hf | ⟨p', hp, hs⟩
          · exact Option.isSome_iff_exists.mp (hf _ _ hee)
          · cases hp; exact Option.isSome_iff_exists.mp hs
        obtain ⟨dt, hdt⟩ := hreach
        have hLt := (hInv.i2 _ _ hdt).1
        have hrt := hLt.1.rng GO
        refine wpAny_isNot_other (by rfl) (fun h => nomatch h) ?_
        with_reducible refine wpAny_truthy_bool ?_
        rw [if_pos rfl]
        refine wpAny_execs_cons ?_
        with_reducible refine wpAny_If ?_
        refine wpAny_isTrue_Compare1 ?_
        refine ld_i e S 6 rfl rfl ?_
        refine wpAny_Constant_none ?_
        refine wpAny_is_other (by rfl) (fun h => nomatch h) ?_
        with_reducible refine wpAny_truthy_bool ?_
        rw [if_neg (by decide)]
        -- path = paths[target] = [target]
        refine wpAny_execs_cons ?_
        refine wpAny_Assign_two ?_
        refine s_list1 ?_
        refine ld_i e S 6 rfl rfl ?_
        with_reducible refine s_newListP S rfl ?_
        clear S; intro pa s2 S
        refine wpAny_assign_Name (st_i e S 23 rfl ?_)
        clear S; intro s2 S
        refine as_sub ?_
        refine ld_i e S 4 rfl rfl ?_
        refine ld_i e S 6 rfl rfl ?_
        refine s_dset (kvs := [(0, .ref p.sp)]) S 7 rfl (ik_is w p.tg p.tt) (by simp) ?_
        clear S; intro s2 S
        have hst : stored [((0 : Int), Value.ref p.sp)] p.tg (.ref pa) = [(0, .ref p.sp), (p.tg, .ref pa)] := stored_absent (by rw [valueAt_cons, if_neg (Ne.symm htg)]; rfl) _
        rw [hst] at S
        replace S : St h1 L' djN (djV x so lam (some p) (some (mdV pd (some p))) (some (.ref aa)) (some (.ref Dd)) (some (.ref Sn)) (some (.ref cx)) (some (.ref F)) b1 b2 b3 b4 b5 b6 b7 b8 b9 b10 (some (.ref pa)) b12)
          ((pa, APL [.int p.tg p.tt]) :: (djL w cx cdx F Sn Dd c fr sm dm ++ ([(pd, ADict (IK w) (plKv pl)), (p.P, ADict (IK w) [(0, .ref p.sp), (p.tg, .ref pa)])] ++ junk))) s s2 := S
        replace S := S.mono (i := 0) (P' := AIntL [p.tg]) rfl (fun o h => ⟨_, h, .cons _ _ .nil⟩)
        refine wpAny_execs_cons ?_
        refine wpAny_mono (Q := fun f s' => f = .next ∧ ∃ rs cp, Path adj rs.reverse p.tg dt ∧ rs.length ≤ 600 ∧ St h1 L' djN (djV x so lam (some p) (some (mdV pd (some p))) (some (.ref aa)) (some (.ref Dd)) (some (.ref Sn)) (some (.ref cx)) (some (.ref F)) b1 b2 b3 b4 b5 b6 b7 b8 b9 b10 (some (.ref pa)) cp)
            ((pa, AIntL rs) :: (djL w cx cdx F Sn Dd c fr sm dm ++ ([(pd, ADict (IK w) (plKv pl)), (p.P, ADict (IK w) [(0, .ref p.sp), (p.tg, .ref pa)])] ++ junk))) s s') ?_ ?_ (fun _ _ x => x)
        · refine s_while (fun k vs l => ∃ rs cur dc rest cp vm, rs.reverse = cur :: rest ∧ look dm cur = some dc ∧ Ext adj cur dc rest p.tg dt ∧ k = dc.toNat ∧ rs.length = vm.length ∧ vm.length + rem vm n.toNat = n.toNat ∧ (∀ x y, look vm x = some y → ∃ dx, look dm x = some dx ∧ dc ≤ dx) ∧
              vs = djV x so lam (some p) (some (mdV pd (some p))) (some (.ref aa)) (some (.ref Dd)) (some (.ref Sn)) (some (.ref cx)) (some (.ref F)) b1 b2 b3 b4 b5 b6 b7 b8 b9 b10 (some (.ref pa)) cp ∧
              l = (pa, AIntL rs) :: (djL w cx cdx F Sn Dd c fr sm dm ++ ([(pd, ADict (IK w) (plKv pl)), (p.P, ADict (IK w) [(0, .ref p.sp), (p.tg, .ref pa)])] ++ junk))) dt.toNat S
            ⟨[p.tg], p.tg, dt, [], _, [(p.tg, 0)], rfl, hdt, ext_nil, rfl, rfl, ?_, ?_, rfl, rfl⟩ ?_
          · have := rem_put (d := 0) hrt.1 (m := []) rfl (N := n.toNat) (by have := hrt.2.1; omega)
            rw [rem_nil] at this
            show 1 + rem [(p.tg, 0)] n.toNat = n.toNat
            have e2 : put [] p.tg 0 = [(p.tg, 0)] := rfl
            rw [e2] at this
            omega
          · intro y z hy
            unfold look at hy
            split at hy
            · rename_i ey; exact ⟨dt, ey ▸ hdt, Int.le_refl _⟩
            · cases hy
          · clear S
            rintro k vs l s2 ⟨rs, cur, dc, rest', cp, vm, hrs, hcur, hext, rfl, hvl, hvr, hvm, rfl, rfl⟩ S
            have hlast : rs.getLast? = some cur := by rw [← List.head?_reverse, hrs]; rfl
            have hrl : rs.length ≤ 600 := by omega
            refine wpAny_isTrue_Compare1 ?_
            refine wpAny_NamedExpr ?_
            refine MethodCall_ ?_
            refine ld_i e S 7 rfl rfl ?_
            refine s_dmeth PySem.F.slot_dict_get PySem.F.type_dict_get (S.dct (i := 6) (a := pd) (kvs := plKv pl) rfl) ?_
            refine cw_m1 ?_
            with_reducible refine Subscript_ ?_
            refine ld_i e S 23 rfl rfl ?_
            with_reducible refine wpAny_UnaryOp ?_
            with_reducible refine s_ci S ?_
            clear S; intro t1 s2 S
            with_reducible refine neg_int ?_
            replace S := S.tok (s2.toks + 1)
            refine s_last S 0 rfl hlast ?_
            intro t2
            cases hq : look (plM pl) cur with
            | none =>
              refine s_dget1 S (S.dct (i := 6) (a := pd) (kvs := plKv pl) rfl) (S.lo (i := 6) (a := pd) (P := ADict (IK w) (plKv pl)) rfl) (ik_is w cur t2) none (pl_none hq) ?_
              clear S; intro s2 S
              refine wpAny_assign_Name (st_i e S 24 rfl ?_)
              clear S; intro s2 S
              refine wpAny_Constant_none ?_
              refine wpAny_isNot_self (by rfl) ?_
              with_reducible refine wpAny_truthy_bool ?_
              rw [if_neg (by decide)]
              refine ⟨rfl, rs, _, ?_, hrl, S⟩
              have hc0 := back_zero hInv (hP rfl) hcur hq
              subst hc0
              have h2 := (hInv.i2 0 dc hcur).1
              have h3 := h2.2 0 .zero
              have h4 := (h2.1.rng GO).2.2
              have : dc = 0 := by omega
              subst this
              rw [hrs]
              exact hext [0] .zero
            | some q =>
              obtain ⟨qa, hqa, y, hy, hya, hyq⟩ := pl_some hq
              obtain ⟨dq, cc, hdq, hm, hdc, hq0, hqlt⟩ := back_step GO hInv (hP rfl) hcur hq
              refine s_dget1 S (S.dct (i := 6) (a := pd) (kvs := plKv pl) rfl) (S.lo (i := 6) (a := pd) (P := ADict (IK w) (plKv pl)) rfl) (ik_is w cur t2) (some (.ref qa)) hqa ?_
              clear S; intro s2 S
              refine wpAny_assign_Name (st_i e S 24 rfl ?_)
              clear S; intro s2 S
              refine wpAny_Constant_none ?_
              refine wpAny_isNot_other (by rfl) (fun h => nomatch h) ?_
              with_reducible refine wpAny_truthy_bool ?_
              rw [if_pos rfl]
              refine wpAny_execs_cons ?_
              refine wpAny_Expr ?_
              refine MethodCall_ ?_
              refine ld_i e S 23 rfl rfl ?_
              refine s_lmethI PySem.F.slot_list_append PySem.F.type_list_append S 0 rfl ?_
              refine cw_m1 ?_
              with_reducible refine Subscript_ ?_
              refine ld_i e S 24 rfl rfl ?_
              with_reducible refine s_ci S ?_
              clear S; intro t3 s2 S
              obtain ⟨oq, hoq, t4, hlq⟩ := S.mem (a := qa) (P := AOne q) (by rw [← hya, ← hyq]; exact List.mem_cons_of_mem _ (List.mem_append_right _ (List.mem_append_right _ (hHeld.p y hy))))
              refine s_sub_list (xs := [.int q t4]) (x := .int q t4) ⟨oq, hoq, hlq.1, hlq.2⟩ (by decide) (by decide) rfl ?_
              refine s_appendI S 0 rfl (by omega) ?_
              clear S; intro s2 S
              refine wpAny_execs_nil ?_
              have hqn : look vm q = none := by
                cases hh : look vm q with
                | none => rfl
                | some z =>
                  obtain ⟨dx, h1, h2⟩ := hvm q z hh
                  rw [hdq] at h1; cases h1; omega
              have hqr := (hInv.i2 _ _ hdq).1.1.rng GO
              have hrem := rem_put (d := 0) hqr.1 hqn (N := n.toNat) (by have := hqr.2.1; omega)
              refine ⟨dq.toNat, _, _, by omega, ⟨rs ++ [q], q, dq, cur :: rest', _, put vm q 0, by rw [List.reverse_append, hrs]; rfl, hdq, ext_step hext hm hdc, rfl, ?_, ?_, ?_, rfl, rfl⟩, S⟩
              · rw [put_new hqn, List.length_append, List.length_append, hvl]; rfl
              · have : (put vm q 0).length = vm.length + 1 := by rw [put_new hqn, List.length_append]; rfl
                omega
              · intro y' z hz
                rw [look_put] at hz
                split at hz
                · rename_i ey; exact ⟨dq, ey ▸ hdq, Int.le_refl _⟩
                · obtain ⟨dx, h1, h2⟩ := hvm y' z hz
                  exact ⟨dx, h1, by omega⟩
        · rintro f s3 ⟨rfl, rs, cp, hpath, hrl, S3⟩
          clear S
          refine wpAny_execs_cons ?_
          refine wpAny_Expr ?_
          refine MethodCall_ ?_
          refine ld_i e S3 23 rfl rfl ?_
          refine s_lmethI PySem.F.slot_list_reverse PySem.F.type_list_reverse S3 0 rfl ?_
          refine cw_m0 ?_
          refine s_reverse S3 0 rfl (by omega) ?_
          clear S3; intro s3 S3
          refine wpAny_execs_nil ?_
          refine wpAny_execs_nil ?_
          refine wpAny_execs_cons (wpAny_Return_some ?_)
          refine ld_i e S3 9 rfl rfl ?_
          refine kB p rfl Dd dm pa rs.reverse dt s3 ?_ hdt hpath hLt
          have S4 := S3.pick (pre := [_, _, _, _, _, _, _, _]) [5, 7, 0] rfl
          exact back _ [(Dd, AIM w dm), (p.P, ADict (IK w) [(0, .ref p.sp), (p.tg, .ref pa)]), (pa, AIntL rs.reverse)] _ (St.sub S4 (List.sublist_append_left _ _))
end Mine
end

section
set_option maxRecDepth 100000
set_option maxHeartbeats 4000000
set_option linter.unusedVariables false
set_option pp.deepTerms false
set_option pp.deepTerms.threshold 4
namespace Mine
open PySem PySem.W PySem.Calls PyProof.Rows

section
variable {M : Model} {A : Around} {E : Value → Shared → Prop} {s : Shared} {env : Env}
theorem call_kw {func : PySem.Expr} {args : List PySem.Expr} {kws : List Keyword} {pos : Pos} {Q : Value → Shared → Prop}
    (h : wpAny M A (eval func env) (fun f s₁ => wpAny M A (callWith pos f [] (backTo pos (starEach args env)) (backToKw pos (keywordEach kws env))) Q E s₁) E s)
    (he : eval (.Call func args kws pos) env = (do callWith pos (← eval func env) [] (backTo pos (starEach args env)) (backToKw pos (keywordEach kws env))) := by rfl) :
    wpAny M A (eval (.Call func args kws pos) env) Q E s := by
  rw [he]; exact wpAny_bind h
end
section
variable {w : World} {h₀ : Heap} {L : Addr} {ns : List Str} {vs : List (Option Value)} {l : List (Addr × Assn)} {b s : Shared}
/-- what a whole ledger says, in the base of a callee that is lent nothing -/
theorem St.heldAll (S : St h₀ L ns vs l b s) : ∀ p ∈ l, ∃ o, (hideAll s.heap []).get? p.1 = some o ∧ p.2 o := fun p hp => by
  obtain ⟨o, e, x⟩ := S.mem (a := p.1) (P := p.2) hp
  exact ⟨o, hide_get e (by simp), x⟩
end

theorem multi_len_spec {w : World} {A : Around} {R : Result → Shared → Prop} {h₀ : Heap} {L : Addr} {ns : List Str} {vs : List (Option Value)} {rest : List (Addr × Assn)} {b s : Shared} {x so : Addr} {n : Int} {D : Nat} {adj : Int → List (Int × Int)} {sn : Nat} {st t : Tok} (T : Option Addr)
    (S : St h₀ L ns vs (tabW T ++ rest) b s) (W : Wd w h₀) (r : Rm A 14) (G : GrAt w (hideAll s.heap ((tabW T).map (·.1))) x n adj) (GO : GOK adj n D) (hDz : D * n.toNat ≤ 500) (hNz : n.toNat ≤ 500)
    (hso : (hideAll s.heap ((tabW T).map (·.1))).get? so = some (setO #[(0, .int 0 st)] sn (setT1 (!byT w))))
    (kA : ∀ Dd dm c' s', St h₀ L ns vs ([(Dd, AIM w dm)] ++ tabW (some c') ++ rest) b s' → (∀ x d, look dm x = some d → Least adj x d) → (∀ x ee, Way adj x ee → ∃ d, look dm x = some d) → R (.ok (.ret (.ref Dd))) s') :
    codeAny (model PySem.Challenge.pw_ab5042_01 w) A (.call (.ref 161) ⟨[.ref x, .ref so], [("cutoff", .none), ("weight", .str "weight" t)]⟩) R s := by
  refine' callf S W ["G", "sources", "cutoff", "weight", "s"] [.ref x, .ref so, .none, .str "weight" t] 1 [some (.ref x), some (.ref so), some .none, some (.str "weight" t), none] rfl (tabW T) rest (fun p hp => List.mem_append_left _ hp) (fun p hp => List.mem_append_right _ hp) S.N.2 r ?k1 ?k2 ?k3 ?k4 ?k5 ?k6 ?k7 ?k8 rfl ?k9 ?_
  case k1 => k_is
  case k2 => exact rfl
  case k3 => exact rfl
  case k4 => k_is
  case k5 => decide +kernel
  case k6 => decide +kernel
  case k7 => exact rfl
  case k8 => exact rfl
  case k9 => exact binds_K (W.at S).X rfl (by k_is) rfl rfl rfl
  intro L' s' S' e r' back
  have W1 := W.hide S (lm := tabW T) (fun p hp => List.mem_append_left _ hp)
  clear S
  generalize hideAll s.heap ((tabW T).map (·.1)) = h1 at *
  have S := S'; clear S'
  -- if not sources
  refine wpAny_execs_cons ?_
  with_reducible refine wpAny_If ?_
  refine isTrue_not ?_
  refine isTrue_plain ?_
  refine ld_i e S 1 rfl rfl ?_
  refine truthy_set0 (S.F.keep _ _ hso) ⟨sn, st, rfl⟩ ?_
  intro t1
  replace S := S.tok t1
  rw [if_neg (by decide)]
  refine wpAny_execs_nil ?_
  -- for s in sources
  refine wpAny_execs_cons ?_
  refine wpAny_For ?_
  refine ld_i e S 1 rfl rfl ?_
  refine it_set0 S (S.F.keep _ _ hso) ?_
  clear S; intro it s1 S
  refine s_forSteps (fun i vs l => ∃ v4, vs = [some (.ref x), some (.ref so), some .none, some (.str "weight" t), v4] ∧ l = tabW T) (Steps.set0 r'.hh it so sn st (fun s o i Q E a b c => set_self a b c)) S ⟨_, rfl, rfl⟩ (fun i vs l s _ S => S.F.keep _ _ hso) ?_ ?_
  · rintro i v It' vs l s2 hi rfl ⟨v4, rfl, rfl⟩ S
    refine wpAny_assign_Name ?_
    refine st_i e S 4 rfl ?_
    clear S; intro s2 S
    refine wpAny_execs_cons ?_
    with_reducible refine wpAny_If ?_
    refine wpAny_isTrue_Compare1 ?_
    refine ld_i e S 4 rfl rfl ?_
    refine ld_i e S 0 rfl rfl ?_
    refine s_notinG S W1 (r'.le (by decide)) (G.keep S.F.keep) (Int.le_refl _) GO.pos ?_
    clear S; intro s2 S
    with_reducible refine wpAny_truthy_bool ?_
    rw [if_neg (by decide)]
    refine wpAny_execs_nil ?_
    refine wpAny_execs_nil ?_
    exact ⟨_, _, ⟨_, rfl, rfl⟩, S⟩
  rintro vs l s2 ⟨v4, rfl, rfl⟩ S
  -- weight = _weight_function(G, weight)
  refine wpAny_execs_cons ?_
  refine wpAny_Assign_Name ?_
  refine Call_ ?_
  refine ld_g e W1 S (.ref 129) (by k_is) rfl ?_
  refine cw_f2 W1 (by k_is) ?_
  refine ld_i e S 0 rfl rfl ?_
  refine ld_i e S 3 rfl rfl ?_
  refine ⟨W1.at S, wpAny_call ?_⟩
  obtain ⟨dx, ag, an, aa, ap, nkv, akv, I, _⟩ := G.ex
  refine weight_spec T (rest := []) (by rw [List.append_nil]; exact S) W1 (r'.le (by decide)) (I.keep (S.under (fun p hp => hp))) rfl ?_
  clear S; intro lam c' extra s2 S hlam
  refine st_i e S 3 rfl ?_
  clear S; intro s2 S
  rw [List.append_nil] at S
  -- return _dijkstra_multisource(..)
  refine wpAny_execs_cons (wpAny_Return_some ?_)
  refine call_kw ?_
  refine ld_g e W1 S (.ref 282) (by k_is) rfl ?_
  refine callWith_KW W1.X (by k_is) rfl ?_
  refine args_cons ?_
  refine ld_i e S 0 rfl rfl ?_
  refine args_cons ?_
  refine ld_i e S 1 rfl rfl ?_
  refine args_cons ?_
  refine ld_i e S 3 rfl rfl ?_
  refine args_nil ?_
  refine kwAll_cons ?_
  refine ld_i e S 2 rfl rfl ?_
  refine kwAll_nil ?_
  refine ⟨(W1.at S).X, wpAny_call ?_⟩
  have hb := S.under (lm := []) (fun p hp => nomatch hp)
  refine dij_spec (md := none) (rest := extra ++ tabW (some c')) (D := D) S W1 (r'.le (by decide)) (G.keep hb) GO hDz hNz (hb _ _ hso) (hlam _ S.heldAll) (fun p hp => nomatch hp) ?_ (fun p hp => nomatch hp)
  rintro - Dd dm s3 S3 h2 h3
  clear S
  refine kA Dd dm c' s3 ?_ h2 h3
  refine back _ ([(Dd, AIM w dm)] ++ tabW (some c')) _ (St.sub S3 ?_)
  exact List.Sublist.append_left (List.sublist_append_right _ _) _
end Mine
end

section
set_option maxRecDepth 100000
set_option maxHeartbeats 4000000
set_option linter.unusedVariables false
set_option pp.deepTerms false
set_option pp.deepTerms.threshold 4
namespace Mine
open PySem PySem.W PySem.Calls PyProof.Rows

theorem kds_of {K : Frag} {c : Addr} {oc : Value} {od : Option Addr} {vs : Array Value} {sl : Array (Option Value)} (h : K.lookup c = some ⟨oc, od, .fields vs, sl⟩) : kdsCode K (.ref c) = true := by
  show (match List.lookup c K with | some ⟨_, _, .fields _, _⟩ => true | _ => false) = true
  have h' : List.lookup c K = _ := h
  rw [h']

theorem single_len_spec {w : World} {A : Around} {R : Result → Shared → Prop} {h₀ : Heap} {L : Addr} {ns : List Str} {vs : List (Option Value)} {rest : List (Addr × Assn)} {b s : Shared} {x : Addr} {n : Int} {D : Nat} {adj : Int → List (Int × Int)} {t : Tok} (T : Option Addr)
    (S : St h₀ L ns vs (tabW T ++ rest) b s) (W : Wd w h₀) (r : Rm A 15) (G : GrAt w (hideAll s.heap ((tabW T).map (·.1))) x n adj) (GO : GOK adj n D) (hDz : D * n.toNat ≤ 500) (hNz : n.toNat ≤ 500)
    (kA : ∀ Dd dm c' s', St h₀ L ns vs ([(Dd, AIM w dm)] ++ tabW (some c') ++ rest) b s' → (∀ x d, look dm x = some d → Least adj x d) → (∀ x ee, Way adj x ee → ∃ d, look dm x = some d) → R (.ok (.ret (.ref Dd))) s') :
    codeAny (model PySem.Challenge.pw_ab5042_01 w) A (.call (.ref 145) ⟨[.ref x, .int 0 t], []⟩) R s := by
  refine' callf S W ["G", "source", "cutoff", "weight"] [.ref x, .int 0 t, .none, .str "weight" 455] 0 [some (.ref x), some (.int 0 t), some .none, some (.str "weight" 455)] rfl (tabW T) rest (fun p hp => List.mem_append_left _ hp) (fun p hp => List.mem_append_right _ hp) S.N.2 r ?k1 ?k2 ?k3 ?k4 ?k5 ?k6 ?k7 ?k8 rfl ?k9 ?_
  case k1 => k_is
  case k2 => exact rfl
  case k3 => exact rfl
  case k4 => k_is
  case k5 => decide +kernel
  case k6 => decide +kernel
  case k7 => exact rfl
  case k8 => exact rfl
  case k9 => exact binds_K (W.at S).X rfl (by k_is) rfl rfl rfl
  intro L' s' S' e r' back
  have W1 := W.hide S (lm := tabW T) (fun p hp => List.mem_append_left _ hp)
  clear S
  generalize hideAll s.heap ((tabW T).map (·.1)) = h1 at *
  have S := S'
  clear S'
  refine wpAny_execs_cons (wpAny_Return_some ?_)
  refine call_kw ?_
  refine ld_g e W1 S (.ref 161) (by k_is) rfl ?_
  refine callWith_KW W1.X (by k_is) rfl ?_
  refine args_cons ?_
  refine ld_i e S 0 rfl rfl ?_
  refine args_cons ?_
  refine s_set1 S W1.X (kds_of (c := 144) (by k_is)) rfl (fun s' l' S' Q q => ld_i e S' 1 rfl rfl (q s' S')) ?_
  clear S; intro so s1 S
  refine args_nil ?_
  refine kwAll_cons ?_
  refine ld_i e S 2 rfl rfl ?_
  refine kwAll_cons ?_
  refine ld_i e S 3 rfl rfl ?_
  refine kwAll_nil ?_
  refine ⟨(W1.at S).X, wpAny_call ?_⟩
  have S2 : St h1 L' _ _ (tabW T ++ [(so, ASet0 w)]) s s1 := S.perm (List.perm_append_comm (l₁ := tabW T) (l₂ := [(so, ASet0 w)]))
  clear S
  obtain ⟨o, hso, sn, st, rfl⟩ := S2.held (a := so) (P := ASet0 w) (List.mem_singleton.mpr rfl)
  have hb := S2.under (lm := tabW T) (fun p hp => List.mem_append_left _ hp)
  refine multi_len_spec T S2 W1 (r'.le (by decide)) (G.keep hb) GO hDz hNz hso ?_
  intro Dd dm c' s3 S3 h2 h3
  clear S2
  refine kA Dd dm c' s3 ?_ h2 h3
  exact back _ ([(Dd, AIM w dm)] ++ tabW (some c')) _ (St.sub S3 (List.sublist_append_left _ _))
end Mine
end

section
set_option maxRecDepth 100000
set_option maxHeartbeats 4000000
set_option linter.unusedVariables false
set_option pp.deepTerms false
set_option pp.deepTerms.threshold 4
namespace Mine
open PySem PySem.W PySem.Calls PyProof.Rows

/-- x = {.. for ..} on one line -/
theorem s_dcompAssign {w : World} {A : Around} {E : Value → Shared → Prop} {s : Shared} {env : Env} {kx vx iter : PySem.Expr} {x y : Str} {px py pos spos : Pos} {scope : Scope} {Q : Flow → Shared → Prop} (hsw : swapsWith (.DictComp kx vx [⟨.Name x px, iter, [], 0⟩] scope pos) (some (.Name y py)) spos.line env = pure true) (hsc : compEvOk scope x = true) (hclos : closureFor scope env = pure [])
    (h : wpAny (model PG w) A (eval iter env) (fun xv s₁ => wpAny (model PG w) A (pyIter xv) (fun it s₂ => wpAny (model PG w) A newDict (fun acc s₃ => wpAny (model PG w) A (newFunctionEnv scope env.globals [] [] env.qual none .none (some env)) (fun cenv s₄ =>
      codeAny (model PG w) A (.compStart (.DictComp kx vx [⟨.Name x px, iter, [], 0⟩] scope pos) 0 it acc { cenv with scope := relabel scope env }) (compPost (model PG w) A E (some (assign (.Name y py) env)) (fun _ s' => Q .next s') acc cenv.locals) s₄) E s₃) E s₂) E s₁) E s)
    (hs : ∀ x, foldedSetIterable iter env x = pure x := by intro _; rfl) :
    wpAny (model PG w) A (exec (.Assign [.Name y py] (.DictComp kx vx [⟨.Name x px, iter, [], 0⟩] scope pos) spos) env) Q E s := by
  simp only [compEvOk, Bool.and_eq_true, beq_iff_eq, Bool.not_eq_true', List.all_eq_true] at hsc
  obtain ⟨⟨⟨hkind, hx⟩, hdbg⟩, hall⟩ := hsc
  rw [exec_Assign_Name_used _ _ _ _ hsw]
  refine wpAny_bind (wpAny_standAt (wpAny_bind ?_))
  show wpAny _ A (do let _ ← comprehension (.DictComp kx vx [⟨.Name x px, iter, [], 0⟩] scope pos) scope env _ newDict false (eval iter env) (some (assign (.Name y py) env))) _ _ s
  refine wpAny_bind (wpAny_mono (wpAny_comprehension_free (use := some (assign (.Name y py) env)) (Q := fun _ s' => Q .next s') rfl hs hclos hkind (fun y hy e => ?_) h) (fun _ s' hq => wpAny_pure (wpAny_pure hq)) fun _ _ e => e)
  have := (hall y hy).2
  rw [e] at this
  simpa using this

theorem multi_dij_spec {w : World} {A : Around} {R : Result → Shared → Prop} {h₀ : Heap} {L : Addr} {ns : List Str} {vs : List (Option Value)} {rest : List (Addr × Assn)} {b s : Shared} {x so : Addr} {n tg : Int} {tt : Tok} {D : Nat} {adj : Int → List (Int × Int)} {sn : Nat} {st t : Tok} (T : Option Addr)
    (S : St h₀ L ns vs (tabW T ++ rest) b s) (W : Wd w h₀) (r : Rm A 14) (G : GrAt w (hideAll s.heap ((tabW T).map (·.1))) x n adj) (GO : GOK adj n D) (hDz : D * n.toNat ≤ 500) (hNz : n.toNat ≤ 500)
    (hso : (hideAll s.heap ((tabW T).map (·.1))).get? so = some (setO #[(0, .int 0 st)] sn (setT1 (!byT w)))) (hway : ∃ ee, Way adj tg ee)
    (kB : ∀ ta (v0 : Value) pa ys d T' s', St h₀ L ns vs ([(ta, ATup [v0, .ref pa]), (pa, AIntL ys)] ++ tabW T' ++ rest) b s' → Path adj ys tg d → Least adj tg d → R (.ok (.ret (.ref ta))) s') :
    codeAny (model PySem.Challenge.pw_ab5042_01 w) A (.call (.ref 167) ⟨[.ref x, .ref so], [("cutoff", .none), ("target", .int tg tt), ("weight", .str "weight" t)]⟩) R s := by
  refine' callf S W ["G", "sources", "target", "cutoff", "weight", "s", "paths", "dist", "err"] [.ref x, .ref so, .int tg tt, .none, .str "weight" t] 4 [some (.ref x), some (.ref so), some (.int tg tt), some .none, some (.str "weight" t), none, none, none, none] rfl (tabW T) rest (fun p hp => List.mem_append_left _ hp) (fun p hp => List.mem_append_right _ hp) S.N.2 r ?k1 ?k2 ?k3 ?k4 ?k5 ?k6 ?k7 ?k8 rfl ?k9 ?_
  case k1 => k_is
  case k2 => exact rfl
  case k3 => exact rfl
  case k4 => k_is
  case k5 => decide +kernel
  case k6 => decide +kernel
  case k7 => exact rfl
  case k8 => exact rfl
  case k9 => exact binds_K (W.at S).X rfl (by k_is) rfl rfl rfl
  intro L' s' S' e r' back
  have W1 := W.hide S (lm := tabW T) (fun p hp => List.mem_append_left _ hp)
  clear S
  generalize hideAll s.heap ((tabW T).map (·.1)) = h1 at *
  have S := S'; clear S'
  -- if not sources
  refine wpAny_execs_cons ?_
  with_reducible refine wpAny_If ?_
  refine isTrue_not ?_
  refine isTrue_plain ?_
  refine ld_i e S 1 rfl rfl ?_
  refine truthy_set0 (S.F.keep _ _ hso) ⟨sn, st, rfl⟩ ?_
  intro t1
  replace S := S.tok t1
  rw [if_neg (by decide)]
  refine wpAny_execs_nil ?_
  -- for s in sources
  refine wpAny_execs_cons ?_
  refine wpAny_For ?_
  refine ld_i e S 1 rfl rfl ?_
  refine it_set0 S (S.F.keep _ _ hso) ?_
  clear S; intro it s1 S
  refine s_forSteps (fun i vs l => ∃ v4, vs = [some (.ref x), some (.ref so), some (.int tg tt), some .none, some (.str "weight" t), v4, none, none, none] ∧ l = tabW T) (Steps.set0 r'.hh it so sn st (fun s o i Q E a b c => set_self a b c)) S ⟨_, rfl, rfl⟩ (fun i vs l s _ S => S.F.keep _ _ hso) ?_ ?_
  · rintro i v It' vs l s2 hi rfl ⟨v4, rfl, rfl⟩ S
    refine wpAny_assign_Name ?_
    refine st_i e S 5 rfl ?_
    clear S; intro s2 S
    refine wpAny_execs_cons ?_
    with_reducible refine wpAny_If ?_
    refine wpAny_isTrue_Compare1 ?_
    refine ld_i e S 5 rfl rfl ?_
    refine ld_i e S 0 rfl rfl ?_
    refine s_notinG S W1 (r'.le (by decide)) (G.keep S.F.keep) (Int.le_refl _) GO.pos ?_
    clear S; intro s2 S
    with_reducible refine wpAny_truthy_bool ?_
    rw [if_neg (by decide)]
    refine wpAny_execs_nil ?_
    refine wpAny_execs_nil ?_
    exact ⟨_, _, ⟨_, rfl, rfl⟩, S⟩
  rintro vs l s2 ⟨v4, rfl, rfl⟩ S
  -- if target in sources
  refine wpAny_execs_cons ?_
  with_reducible refine wpAny_If ?_
  refine wpAny_isTrue_Compare1 ?_
  refine ld_i e S 2 rfl rfl ?_
  refine ld_i e S 1 rfl rfl ?_
  refine s_inset0 S (S.F.keep _ _ hso) ⟨sn, st, rfl⟩ ?_
  clear S; intro s2 S
  with_reducible refine wpAny_truthy_bool ?_
  by_cases htg : tg = 0
  · subst htg
    rw [if_pos (by decide)]
    refine wpAny_execs_cons (wpAny_Return_some ?_)
    refine s_tuple2 ?_ rfl rfl
    with_reducible refine s_ci S ?_
    clear S; intro t2 s2 S
    refine s_list1 ?_
    refine ld_i e S 2 rfl rfl ?_
    refine s_newListP S rfl ?_
    clear S; intro pa s2 S
    with_reducible refine s_newTuple S rfl ?_
    clear S; intro ta s2 S
    replace S := S.mono (i := 1) (P' := AIntL [0]) rfl (fun o h => ⟨_, h, .cons _ _ .nil⟩)
    refine kB ta _ pa [0] 0 T s2 (back _ ([(ta, ATup [.int 0 t2, .ref pa]), (pa, AIntL [0])] ++ tabW T) _ S) .zero ⟨.zero, fun ee h => (h.rng GO).2.2⟩
  rw [if_neg (by simpa using htg)]
  refine wpAny_execs_nil ?_
  -- weight = _weight_function(G, weight)
  refine wpAny_execs_cons ?_
  refine wpAny_Assign_Name ?_
  refine Call_ ?_
  refine ld_g e W1 S (.ref 129) (by k_is) rfl ?_
  refine cw_f2 W1 (by k_is) ?_
  refine ld_i e S 0 rfl rfl ?_
  refine ld_i e S 4 rfl rfl ?_
  refine ⟨W1.at S, wpAny_call ?_⟩
  obtain ⟨dx, ag, an, aa, ap, nkv, akv, I, _⟩ := G.ex
  refine weight_spec T (rest := []) (by rw [List.append_nil]; exact S) W1 (r'.le (by decide)) (I.keep (S.under (fun p hp => hp))) rfl ?_
  clear S; intro lam c' extra s2 S hlam
  refine st_i e S 4 rfl ?_
  clear S; intro s2 S
  rw [List.append_nil] at S
  -- paths = {source: [source] for source in sources}
  refine wpAny_execs_cons ?_
  refine s_dcompAssign rfl rfl rfl ?_
  refine ld_i e S 1 rfl rfl ?_
  refine it_set0 S (S.F.keep _ _ hso) ?_
  clear S; intro it2 s2 S
  have hne : so ≠ it2 := by
    intro q
    have := (S.N.1 _ List.mem_cons_self).2.2.1
    rw [← q, hso] at this; cases this
  refine s_dcompOne S (Steps.set0 r'.hh it2 so sn st (fun s o i Q E a b c => set_self a b c)) rfl rfl rfl (fun h' hk => hk _ _ hne (S.F.keep _ _ hso)) ?_
  clear S; intro C P sp s2 S
  refine post_store e S 6 rfl ?_
  clear S; intro s2 S
  -- dist = _dijkstra_multisource(..)
  refine wpAny_execs_cons ?_
  refine wpAny_Assign_Name ?_
  refine call_kw ?_
  refine ld_g e W1 S (.ref 282) (by k_is) rfl ?_
  refine callWith_KW W1.X (by k_is) rfl ?_
  refine args_cons ?_
  refine ld_i e S 0 rfl rfl ?_
  refine args_cons ?_
  refine ld_i e S 1 rfl rfl ?_
  refine args_cons ?_
  refine ld_i e S 4 rfl rfl ?_
  refine args_nil ?_
  refine kwAll_cons ?_
  refine ld_i e S 6 rfl rfl ?_
  refine kwAll_cons ?_
  refine ld_i e S 3 rfl rfl ?_
  refine kwAll_cons ?_
  refine ld_i e S 2 rfl rfl ?_
  refine kwAll_nil ?_
  refine ⟨(W1.at S).X, wpAny_call ?_⟩
  have hb := S.under (lm := [(P, ADict (IK w) [(0, .ref sp)])]) (fun p hp => by rw [List.mem_singleton.mp hp]; exact List.mem_cons_self)
  have hheld : ∀ p ∈ extra ++ tabW (some c'), ∃ o, (hideAll s2.heap [P]).get? p.1 = some o ∧ p.2 o := fun p hp => St.held (lm := [(P, ADict (IK w) [(0, .ref sp)])]) (rest := (sp, AOne 0) :: (extra ++ tabW (some c'))) S (a := p.1) (P := p.2) (List.mem_cons_of_mem _ hp)
  refine dij_spec (md := some ⟨tg, tt, P, sp⟩) (rest := (sp, AOne 0) :: (extra ++ tabW (some c'))) (D := D) S W1 (r'.le (by decide)) (G.keep hb) GO hDz hNz (hb _ _ hso) (hlam _ hheld) (fun p hp => by cases hp; exact ⟨htg, hway⟩) (fun h => nomatch h) ?_
  intro p0 hp0 Dd dm pa ys d s3 S3 h2 h3 h4
  obtain rfl : (⟨tg, tt, P, sp⟩ : MdP) = p0 := by injection hp0
  clear S
  refine st_i e S3 7 rfl ?_
  clear S3; intro s2 S
  refine wpAny_execs_cons ?_
  with_reducible refine wpAny_If ?_
  refine wpAny_isTrue_Compare1 ?_
  refine ld_i e S 2 rfl rfl ?_
  refine wpAny_Constant_none ?_
  refine wpAny_is_other (by rfl) (fun h => nomatch h) ?_
  with_reducible refine wpAny_truthy_bool ?_
  rw [if_neg (by decide)]
  refine wpAny_execs_nil ?_
  refine wpAny_execs_cons ?_
  refine s_try ?_
  refine wpAny_execs_cons (wpAny_Return_some ?_)
  refine s_tuple2 ?_ rfl rfl
  with_reducible refine Subscript_ ?_
  refine ld_i e S 7 rfl rfl ?_
  refine ld_i e S 2 rfl rfl ?_
  refine s_mitem S 0 rfl h2 ?_
  clear S; intro t5 s2 S
  with_reducible refine Subscript_ ?_
  refine ld_i e S 6 rfl rfl ?_
  refine ld_i e S 2 rfl rfl ?_
  refine s_ditemT S (S.dct (i := 1) rfl) (ik_is w tg tt) (v := .ref pa) (by show valueAt [(0, Value.ref sp), (tg, Value.ref pa)] tg = _; rw [valueAt_cons, if_neg (Ne.symm htg), valueAt_cons, if_pos rfl]) ?_
  clear S; intro s2 S
  with_reducible refine s_newTuple S rfl ?_
  clear S; intro ta s2 S
  have S9 := back _ ([(ta, ATup [.int d t5, .ref pa]), (pa, AIntL ys)] ++ tabW (some c')) _ (S.sub (l' := [(ta, ATup [.int d t5, .ref pa]), (pa, AIntL ys)] ++ tabW (some c')) (.cons₂ _ (.cons _ (.cons _ (.cons₂ _ (.cons _ (List.sublist_append_right _ _)))))))
  exact kB ta (.int d t5) pa ys d (some c') s2 S9 h3 h4
end Mine
end

section
set_option maxRecDepth 100000
set_option maxHeartbeats 4000000
set_option linter.unusedVariables false
set_option pp.deepTerms false
set_option pp.deepTerms.threshold 4
namespace Mine
open PySem PySem.W PySem.Calls PyProof.Rows

theorem single_dij_spec {w : World} {A : Around} {R : Result → Shared → Prop} {h₀ : Heap} {L : Addr} {ns : List Str} {vs : List (Option Value)} {rest : List (Addr × Assn)} {b s : Shared} {x : Addr} {n tg : Int} {tt : Tok} {D : Nat} {adj : Int → List (Int × Int)} {t t2 : Tok} (T : Option Addr)
    (S : St h₀ L ns vs (tabW T ++ rest) b s) (W : Wd w h₀) (r : Rm A 15) (G : GrAt w (hideAll s.heap ((tabW T).map (·.1))) x n adj) (GO : GOK adj n D) (hDz : D * n.toNat ≤ 500) (hNz : n.toNat ≤ 500) (hway : ∃ ee, Way adj tg ee)
    (kB : ∀ ta (v0 : Value) pa ys d T' s', St h₀ L ns vs ([(ta, ATup [v0, .ref pa]), (pa, AIntL ys)] ++ tabW T' ++ rest) b s' → Path adj ys tg d → Least adj tg d → R (.ok (.ret (.ref ta))) s') :
    codeAny (model PySem.Challenge.pw_ab5042_01 w) A (.call (.ref 153) ⟨[.ref x, .int 0 t], [("target", .int tg tt), ("weight", .str "weight" t2)]⟩) R s := by
  refine' callf S W ["G", "source", "target", "cutoff", "weight"] [.ref x, .int 0 t, .int tg tt, .none, .str "weight" t2] 0 [some (.ref x), some (.int 0 t), some (.int tg tt), some .none, some (.str "weight" t2)] rfl (tabW T) rest (fun p hp => List.mem_append_left _ hp) (fun p hp => List.mem_append_right _ hp) S.N.2 r ?k1 ?k2 ?k3 ?k4 ?k5 ?k6 ?k7 ?k8 rfl ?k9 ?_
  case k1 => k_is
  case k2 => exact rfl
  case k3 => exact rfl
  case k4 => k_is
  case k5 => decide +kernel
  case k6 => decide +kernel
  case k7 => exact rfl
  case k8 => exact rfl
  case k9 => exact binds_K (W.at S).X rfl (by k_is) rfl rfl rfl
  intro L' s' S' e r' back
  have W1 := W.hide S (lm := tabW T) (fun p hp => List.mem_append_left _ hp)
  clear S
  generalize hideAll s.heap ((tabW T).map (·.1)) = h1 at *
  have S := S'
  clear S'
  refine wpAny_execs_cons (wpAny_Return_some ?_)
  refine call_kw ?_
  refine ld_g e W1 S (.ref 167) (by k_is) rfl ?_
  refine callWith_KW W1.X (by k_is) rfl ?_
  refine args_cons ?_
  refine ld_i e S 0 rfl rfl ?_
  refine args_cons ?_
  refine s_set1 S W1.X (kds_of (c := 152) (by k_is)) rfl (fun s' l' S' Q q => ld_i e S' 1 rfl rfl (q s' S')) ?_
  clear S; intro so s1 S
  refine args_nil ?_
  refine kwAll_cons ?_
  refine ld_i e S 3 rfl rfl ?_
  refine kwAll_cons ?_
  refine ld_i e S 2 rfl rfl ?_
  refine kwAll_cons ?_
  refine ld_i e S 4 rfl rfl ?_
  refine kwAll_nil ?_
  refine ⟨(W1.at S).X, wpAny_call ?_⟩
  have S2 : St h1 L' _ _ (tabW T ++ [(so, ASet0 w)]) s s1 := S.perm (List.perm_append_comm (l₁ := tabW T) (l₂ := [(so, ASet0 w)]))
  clear S
  obtain ⟨o, hso, sn, st, rfl⟩ := S2.held (a := so) (P := ASet0 w) (List.mem_singleton.mpr rfl)
  have hb := S2.under (lm := tabW T) (fun p hp => List.mem_append_left _ hp)
  refine multi_dij_spec T S2 W1 (r'.le (by decide)) (G.keep hb) GO hDz hNz hso hway ?_
  intro ta v0 pa ys d T' s3 S3 h2 h3
  clear S2
  refine kB ta v0 pa ys d T' s3 ?_ h2 h3
  exact back _ ([(ta, ATup [v0, .ref pa]), (pa, AIntL ys)] ++ tabW T') _ (St.sub S3 (List.sublist_append_left _ _))

theorem path_spec {w : World} {A : Around} {R : Result → Shared → Prop} {h₀ : Heap} {L : Addr} {ns : List Str} {vs : List (Option Value)} {rest : List (Addr × Assn)} {b s : Shared} {x : Addr} {n tg : Int} {tt : Tok} {D : Nat} {adj : Int → List (Int × Int)} {t : Tok} (T : Option Addr)
    (S : St h₀ L ns vs (tabW T ++ rest) b s) (W : Wd w h₀) (r : Rm A 16) (G : GrAt w (hideAll s.heap ((tabW T).map (·.1))) x n adj) (GO : GOK adj n D) (hDz : D * n.toNat ≤ 500) (hNz : n.toNat ≤ 500) (hway : ∃ ee, Way adj tg ee)
    (kB : ∀ pa ys d T' s', St h₀ L ns vs ([(pa, AIntL ys)] ++ tabW T' ++ rest) b s' → Path adj ys tg d → Least adj tg d → R (.ok (.ret (.ref pa))) s') :
    codeAny (model PySem.Challenge.pw_ab5042_01 w) A (.call (.ref 137) ⟨[.ref x, .int 0 t, .int tg tt], []⟩) R s := by
  refine' callf S W ["G", "source", "target", "weight", "length", "path"] [.ref x, .int 0 t, .int tg tt, .str "weight" 442] 2 [some (.ref x), some (.int 0 t), some (.int tg tt), some (.str "weight" 442), none, none] rfl (tabW T) rest (fun p hp => List.mem_append_left _ hp) (fun p hp => List.mem_append_right _ hp) S.N.2 r ?k1 ?k2 ?k3 ?k4 ?k5 ?k6 ?k7 ?k8 rfl ?k9 ?_
  case k1 => k_is
  case k2 => exact rfl
  case k3 => exact rfl
  case k4 => k_is
  case k5 => decide +kernel
  case k6 => decide +kernel
  case k7 => exact rfl
  case k8 => exact rfl
  case k9 => exact binds_K (W.at S).X rfl (by k_is) rfl rfl rfl
  intro L' s' S' e r' back
  have W1 := W.hide S (lm := tabW T) (fun p hp => List.mem_append_left _ hp)
  clear S
  generalize hideAll s.heap ((tabW T).map (·.1)) = h1 at *
  have S := S'
  clear S'
  refine wpAny_execs_cons ?_
  try (refine Assign_Tuple ?_)
  refine call_kw ?_
  refine ld_g e W1 S (.ref 153) (by k_is) rfl ?_
  refine callWith_KW W1.X (by k_is) rfl ?_
  refine args_cons ?_
  refine ld_i e S 0 rfl rfl ?_
  refine args_cons ?_
  refine ld_i e S 1 rfl rfl ?_
  refine args_nil ?_
  refine kwAll_cons ?_
  refine ld_i e S 2 rfl rfl ?_
  refine kwAll_cons ?_
  refine ld_i e S 3 rfl rfl ?_
  refine kwAll_nil ?_
  refine ⟨(W1.at S).X, wpAny_call ?_⟩
  have hb := S.under (lm := tabW T) (fun p hp => hp)
  refine single_dij_spec T (rest := []) (by rw [List.append_nil]; exact S) W1 (r'.le (by decide)) (G.keep hb) GO hDz hNz hway ?_
  intro ta v0 pa ys d T' s3 S3 h2 h3
  clear S
  refine s_unpack (xs := [v0, .ref pa]) S3 r'.hh (S3.tup (i := 0) rfl) rfl rfl ?_
  clear S3; intro s3 S
  refine assignInOrder_cons ?_
  refine wpAny_assign_Name (st_i e S 4 rfl ?_)
  clear S; intro s3 S
  refine assignInOrder_cons ?_
  refine wpAny_assign_Name (st_i e S 5 rfl ?_)
  clear S; intro s3 S
  refine assignInOrder_nil ?_
  refine wpAny_execs_cons (wpAny_Return_some ?_)
  refine ld_i e S 5 rfl rfl ?_
  refine kB pa ys d T' s3 ?_ h2 h3
  rw [List.append_nil] at S
  have S2 := St.sub S (l' := [(pa, AIntL ys)] ++ tabW T') (.cons _ (.cons₂ _ (List.Sublist.refl _)))
  exact back _ _ _ S2
end Mine
end

section
set_option maxRecDepth 100000
set_option maxHeartbeats 4000000
set_option linter.unusedVariables false
set_option pp.deepTerms false
set_option pp.deepTerms.threshold 4
namespace Mine
open PySem PySem.W PySem.Calls PyProof.Rows

/-- the ledger of a graph under work -/
def GL (w : World) (x dx ag an aa ap : Addr) (rs : List NRec) (es ps : Int → IKV) (ds : List (Addr × Int)) : List (Addr × Assn) :=
  [(x, AObj (instObj 1030 dx)), (dx, AFld w (gFld ag an aa ap)), (an, ADict (IK w) (naKv rs)), (aa, ADict (IK w) (saKv rs)), (ap, ADict (IK w) (paKv rs))] ++
    (rs.map (fun r => (r.sa, ADict (IK w) (es r.k))) ++ (rs.map (fun r => (r.pa, ADict (IK w) (ps r.k))) ++ ds.map (fun d => (d.1, AData w d.2))))

/-- a dict of successors and the edges it shows -/
inductive Lnk (ds : List (Addr × Int)) : IKV → List (Int × Int) → Prop
  | nil : Lnk ds [] []
  | cons {u c : Int} {d : Addr} {kvs : IKV} {es : List (Int × Int)} : (d, c) ∈ ds → Lnk ds kvs es → Lnk ds ((u, .ref d) :: kvs) ((u, c) :: es)
theorem Lnk.mono {ds ds' : List (Addr × Int)} {kvs : IKV} {es : List (Int × Int)} (h : Lnk ds kvs es) (hs : ∀ p ∈ ds, p ∈ ds') : Lnk ds' kvs es := by
  induction h with
  | nil => exact .nil
  | cons a _ ih => exact .cons (hs _ a) ih
theorem Lnk.snoc {ds : List (Addr × Int)} {kvs : IKV} {es : List (Int × Int)} (h : Lnk ds kvs es) {u c : Int} {d : Addr} (hm : (d, c) ∈ ds) : Lnk ds (kvs ++ [(u, .ref d)]) (es ++ [(u, c)]) := by
  induction h with
  | nil => exact .cons hm .nil
  | cons a _ ih => exact .cons a ih
theorem Lnk.keys {ds : List (Addr × Int)} {kvs : IKV} {es : List (Int × Int)} (h : Lnk ds kvs es) : kvs.map (·.1) = es.map (·.1) := by
  induction h with
  | nil => rfl
  | cons a _ ih => simp [ih]

structure GI (es ps : Int → IKV) (ds : List (Addr × Int)) (adj : Int → List (Int × Int)) : Prop where
  e : ∀ k, Lnk ds (es k) (adj k)
  p : ∀ k, (ps k).length ≤ ds.length
  el : ∀ k, (es k).length ≤ ds.length

theorem GI.zero : GI (fun _ => []) (fun _ => []) [] (fun _ => []) := ⟨fun _ => .nil, fun _ => Nat.le_refl _, fun _ => Nat.le_refl _⟩

def addE (adj : Int → List (Int × Int)) (u v c : Int) : Int → List (Int × Int) := fun k => if k = u then adj u ++ [(v, c)] else adj k

theorem one_front {α : Type} {l : List α} {i : Nat} {p : α} (hi : l[i]? = some p) : l.Perm (p :: l.eraseIdx i) ∧ ∀ p', (l.set i p').Perm (p' :: l.eraseIdx i) := by
  have hlt := (List.getElem?_eq_some_iff.mp hi).1
  have h2 : ∀ p', (l.set i p').Perm (p' :: l.eraseIdx i) := by
    intro p'
    rw [List.set_eq_take_append_cons_drop, if_pos hlt, List.eraseIdx_eq_take_drop_succ]
    exact List.perm_middle
  refine ⟨?_, h2⟩
  have := h2 p
  rwa [show l.set i p = l from by
    apply List.ext_getElem?
    intro j
    rw [List.getElem?_set]
    split
    · rename_i e; subst e; rw [hi]
    · rfl] at this

theorem map_setF {α : Type} {f g : NRec → α} {rs : List NRec} (hn : (rs.map (·.k)).Nodup) {i : Nat} {r : NRec} (hi : rs[i]? = some r) (hfg : ∀ q, q.k ≠ r.k → g q = f q) : rs.map g = (rs.map f).set i (g r) := by
  apply List.ext_getElem?
  intro j
  rw [List.getElem?_set, List.getElem?_map]
  have hlt := (List.getElem?_eq_some_iff.mp hi).1
  split
  · rename_i e; subst e
    rw [if_pos (by simpa using hlt), hi]; rfl
  · rename_i e
    rw [List.getElem?_map]
    cases hj : rs[j]? with
    | none => rfl
    | some q =>
      show some (g q) = some (f q)
      rw [hfg q fun he => ?_]
      have h1 : (rs.map (·.k))[i]? = some r.k := by rw [List.getElem?_map, hi]; rfl
      have h2 : (rs.map (·.k))[j]? = some q.k := by rw [List.getElem?_map, hj]; rfl
      rw [he, ← h1] at h2
      exact e ((List.getElem?_inj (by simpa using hlt) hn).mp h2.symm)

theorem shuffle {α : Type} (a b c d e f g : α) (A B C : List α) : ([a, b, c, d, e] ++ (f :: A ++ (g :: B ++ C))).Perm ([a, b, d, e, f, g] ++ (c :: (A ++ (B ++ C)))) := by
  refine List.Perm.cons a (List.Perm.cons b ?_)
  refine List.Perm.trans ?_ (List.perm_middle (l₁ := [d, e, f, g]) (a := c)).symm
  refine List.Perm.cons c (List.Perm.cons d (List.Perm.cons e (List.Perm.cons f ?_)))
  exact List.perm_middle

theorem add_step {w : World} {A : Around} {R : Result → Shared → Prop} {h₀ : Heap} {L : Addr} {ns : List Str} {vs : List (Option Value)} {rest : List (Addr × Assn)} {b s : Shared} {x dx ag an aa ap : Addr} {rs : List NRec} {es ps : Int → IKV} {ds : List (Addr × Int)} {adj : Int → List (Int × Int)} {u v c : Int} {tu tv tc : Tok}
    (S : St h₀ L ns vs (GL w x dx ag an aa ap rs es ps ds ++ rest) b s) (W : Wd w h₀) (r : Rm A 3) (hn : (rs.map (·.k)).Nodup) (I : GI es ps ds adj)
    (hu : u ∈ rs.map (·.k)) (hv : v ∈ rs.map (·.k)) (hnew : v ∉ (adj u).map (·.1)) (hz : ds.length ≤ 900)
    (k : ∀ es' ps' ds' s', St h₀ L ns vs (GL w x dx ag an aa ap rs es' ps' ds' ++ rest) b s' → GI es' ps' ds' (addE adj u v c) → ds'.length = ds.length + 1 → R (.ok (.ret .none)) s') :
    codeAny (model PySem.Challenge.pw_ab5042_01 w) A (.call (.ref 935) ⟨[.ref x, .int u tu, .int v tv], [("weight", .int c tc)]⟩) R s := by
  obtain ⟨ru, hru, rfl⟩ := List.mem_map.mp hu
  obtain ⟨rv, hrv, rfl⟩ := List.mem_map.mp hv
  obtain ⟨i, hi⟩ := List.getElem?_of_mem hru
  obtain ⟨j, hj⟩ := List.getElem?_of_mem hrv
  let f : NRec → Addr × Assn := fun r => (r.sa, ADict (IK w) (es r.k))
  let g : NRec → Addr × Assn := fun r => (r.pa, ADict (IK w) (ps r.k))
  have hf := one_front (l := rs.map f) (i := i) (p := f ru) (by rw [List.getElem?_map, hi]; rfl)
  have hg := one_front (l := rs.map g) (i := j) (p := g rv) (by rw [List.getElem?_map, hj]; rfl)
  generalize hDS : ds.map (fun d => ((d.1, AData w d.2) : Addr × Assn)) = DS
  have P1 : (GL w x dx ag an aa ap rs es ps ds ++ rest).Perm ([(x, AObj (instObj 1030 dx)), (dx, AFld w (gFld ag an aa ap)), (aa, ADict (IK w) (saKv rs)), (ap, ADict (IK w) (paKv rs)), (ru.sa, ADict (IK w) (es ru.k)), (rv.pa, ADict (IK w) (ps rv.k))] ++ ((an, ADict (IK w) (naKv rs)) :: ((rs.map f).eraseIdx i ++ ((rs.map g).eraseIdx j ++ (DS ++ rest))))) := by
    unfold GL
    rw [hDS, List.append_assoc, List.append_assoc, List.append_assoc]
    refine List.Perm.trans ?_ (shuffle _ _ _ _ _ _ _ _ _ _)
    exact List.Perm.append_left _ (List.Perm.append hf.1 (List.Perm.append_right _ hg.1))
  have S1 := S.perm P1.symm
  refine add_edge_spec S1 W r (va := .ref rv.sa) (kv_some (f := fun r => .ref r.sa) hn hru) (kv_some (f := fun r => .ref r.sa) hn hrv) (kv_some (f := fun r => .ref r.pa) hn hrv) ?_ (by have := I.el ru.k; omega) (by have := I.p rv.k; omega) ?_
  · exact valueAt_none_of_not_mem (by rw [(I.e ru.k).keys]; exact hnew)
  intro d s' S2
  have hst : stored (es ru.k) rv.k (.ref d) = es ru.k ++ [(rv.k, .ref d)] := stored_absent (valueAt_none_of_not_mem (by rw [(I.e ru.k).keys]; exact hnew)) _
  rw [hst] at S2
  let es' : Int → IKV := fun k => if k = ru.k then es ru.k ++ [(rv.k, .ref d)] else es k
  let ps' : Int → IKV := fun k => if k = rv.k then stored (ps rv.k) ru.k (.ref d) else ps k
  have hds : ∀ p ∈ ds, p ∈ ds ++ [(d, c)] := fun p hp => List.mem_append_left _ hp
  refine k es' ps' (ds ++ [(d, c)]) s' ?_ ⟨fun q => ?_, fun q => ?_, fun q => ?_⟩ (by simp)
  · refine S2.perm ?_
    unfold GL
    rw [List.append_assoc, List.append_assoc, List.append_assoc, List.map_append, hDS, List.append_assoc]
    have hf' : rs.map (fun r => ((r.sa, ADict (IK w) (es' r.k)) : Addr × Assn)) = (rs.map f).set i (ru.sa, ADict (IK w) (es ru.k ++ [(rv.k, .ref d)])) := by
      rw [map_setF (f := f) hn hi (fun q hq => by simp only [f, es', if_neg hq])]
      simp only [es', if_true]
    have hg' : rs.map (fun r => ((r.pa, ADict (IK w) (ps' r.k)) : Addr × Assn)) = (rs.map g).set j (rv.pa, ADict (IK w) (stored (ps rv.k) ru.k (.ref d))) := by
      rw [map_setF (f := g) hn hj (fun q hq => by simp only [g, ps', if_neg hq])]
      simp only [ps', if_true]
    rw [hf', hg']
    refine List.Perm.trans (List.Perm.append_left _ (List.Perm.append (hf.2 _) (List.Perm.append_right _ (hg.2 _)))) ?_
    refine List.Perm.trans (shuffle _ _ _ _ _ _ _ _ _ _) ?_
    show List.Perm _ ([_, _, _, _, _, _] ++ ((d, AData w c) :: _))
    refine List.Perm.append_left [_, _, _, _, _, _] ?_
    refine List.Perm.trans ?_ (List.Perm.swap _ _ _)
    refine List.Perm.cons _ ?_
    rw [← List.append_assoc, ← List.append_assoc, ← List.append_assoc, ← List.append_assoc]
    show List.Perm ((_ ++ ([(d, AData w c)])) ++ rest) _
    refine List.Perm.trans (List.Perm.append_right _ (List.perm_append_comm (l₂ := [(d, AData w c)]))) ?_
    simp
  · show Lnk _ (if q = ru.k then _ else _) (if q = ru.k then _ else _)
    split
    · exact ((I.e _).mono hds).snoc (List.mem_append_right _ (List.mem_singleton.mpr rfl))
    · exact (I.e _).mono hds
  · show (if q = rv.k then _ else _ : IKV).length ≤ _
    rw [List.length_append]
    split
    · have := stored_length_le (ps rv.k) ru.k (.ref d)
      have := I.p rv.k
      simp only [List.length_singleton]; omega
    · have := I.p q; omega
  · show (if q = ru.k then _ else _ : IKV).length ≤ _
    rw [List.length_append]
    split
    · have := I.el ru.k
      simp only [List.length_append, List.length_singleton]; omega
    · have := I.el q; omega

/-- the graph as the search wants it -/
theorem GI.at_ {w : World} {h : Heap} {x dx ag an aa ap : Addr} {rs : List NRec} {es ps : Int → IKV} {ds : List (Addr × Int)} {adj : Int → List (Int × Int)} {n : Int} (I : GI es ps ds adj) (hn : (rs.map (·.k)).Nodup) (hk : ∀ k, 0 ≤ k → k < n → k ∈ rs.map (·.k))
    (hh : ∀ p ∈ GL w x dx ag an aa ap rs es ps ds, ∃ o, h.get? p.1 = some o ∧ p.2 o) (hlo : ∀ p ∈ GL w x dx ag an aa ap rs es ps ds, (p.1 == sysModules) = false) : GrAt w h x n adj := by
  have m : ∀ {p}, p ∈ [(x, AObj (instObj 1030 dx)), (dx, AFld w (gFld ag an aa ap)), (an, ADict (IK w) (naKv rs)), (aa, ADict (IK w) (saKv rs)), (ap, ADict (IK w) (paKv rs))] → p ∈ GL w x dx ag an aa ap rs es ps ds := fun hp => List.mem_append_left _ hp
  obtain ⟨o1, e1, q1⟩ := hh _ (m (p := (x, AObj (instObj 1030 dx))) (by simp))
  obtain ⟨o2, e2, q2⟩ := hh _ (m (p := (dx, AFld w (gFld ag an aa ap))) (by simp))
  obtain ⟨o3, e3, q3⟩ := hh _ (m (p := (an, ADict (IK w) (naKv rs))) (by simp))
  obtain ⟨o4, e4, q4⟩ := hh _ (m (p := (aa, ADict (IK w) (saKv rs))) (by simp))
  have hdat : ∀ p ∈ ds, (∃ t, h.DictOf (SK w) p.1 [("weight", .int p.2 t)]) ∧ (p.1 == sysModules) = false := by
    intro p hp
    have hm : ((p.1, AData w p.2) : Addr × Assn) ∈ GL w x dx ag an aa ap rs es ps ds := List.mem_append_right _ (List.mem_append_right _ (List.mem_append_right _ (List.mem_map_of_mem (f := fun d => ((d.1, AData w d.2) : Addr × Assn)) hp)))
    obtain ⟨o, e, t, q⟩ := hh _ hm
    exact ⟨⟨t, Heap.dictOf_iff.mpr ⟨o, e, q⟩⟩, hlo _ hm⟩
  refine ⟨⟨dx, ag, an, aa, ap, naKv rs, saKv rs, ⟨by rw [e1, q1], o2, e2, q2⟩, Heap.dictOf_iff.mpr ⟨o3, e3, q3⟩, hlo _ (m (p := (an, ADict (IK w) (naKv rs))) (by simp)), ?_, Heap.dictOf_iff.mpr ⟨o4, e4, q4⟩, hlo _ (m (p := (aa, ADict (IK w) (saKv rs))) (by simp)), ?_⟩⟩
  · intro k a c
    obtain ⟨r, hr, rfl⟩ := List.mem_map.mp (hk k a c)
    rw [naKv, kv_some (f := fun r => .ref r.na) hn hr]; rfl
  · intro k a c
    obtain ⟨r, hr, rfl⟩ := List.mem_map.mp (hk k a c)
    have hm : ((r.sa, ADict (IK w) (es r.k)) : Addr × Assn) ∈ GL w x dx ag an aa ap rs es ps ds := List.mem_append_right _ (List.mem_append_left _ (List.mem_map_of_mem (f := fun r : NRec => ((r.sa, ADict (IK w) (es r.k)) : Addr × Assn)) hr))
    obtain ⟨o, e, q⟩ := hh _ hm
    refine ⟨r.sa, es r.k, kv_some (f := fun r => .ref r.sa) hn hr, Heap.dictOf_iff.mpr ⟨o, e, q⟩, hlo _ hm, ?_⟩
    have := I.e r.k
    generalize es r.k = E1, adj r.k = E2 at this
    clear hm e q
    induction this with
    | nil => exact .nil
    | cons a _ ih =>
      obtain ⟨⟨t, hd⟩, hl⟩ := hdat _ a
      exact .cons hd hl ih
end Mine
end

section
set_option maxRecDepth 100000
set_option maxHeartbeats 4000000
set_option linter.unusedVariables false
set_option pp.deepTerms false
set_option pp.deepTerms.threshold 4
namespace Mine
open PySem PySem.W PySem.Calls PyProof.Rows

/-- what a dict with pairs for keys holds: key, the key's address, value -/
abbrev TKV := List (List Int × Addr × Value)
def ATD (w : World) (xs : TKV) : Assn := fun o => o.ExactDict ∧ (∃ es ep, o.data = .dict es ep ∧ es.toList = xs.map (entryOfKey (tupleKind (IK w)))) ∧ (xs.map (·.1)).Nodup
def AKey (w : World) (ks : List Int) : Assn := fun o => TupKeyObj (IK w) ks o
def tkL (w : World) (xs : TKV) : List (Addr × Assn) := xs.map fun x => (x.2.1, AKey w x.1)

/-- the pairs and the numbers they lead to -/
inductive TRel : TKV → List ((Int × Int) × Int) → Prop
  | nil : TRel [] []
  | cons {u v c : Int} {a : Addr} {t : Tok} {xs : TKV} {ps : List ((Int × Int) × Int)} : TRel xs ps → TRel (([u, v], a, .int c t) :: xs) (((u, v), c) :: ps)
theorem TRel.snoc {xs : TKV} {ps : List ((Int × Int) × Int)} (h : TRel xs ps) (u v c : Int) (a : Addr) (t : Tok) : TRel (xs ++ [([u, v], a, .int c t)]) (ps ++ [((u, v), c)]) := by
  induction h with
  | nil => exact .cons .nil
  | cons _ ih => exact .cons ih
theorem TRel.length {xs : TKV} {ps : List ((Int × Int) × Int)} (h : TRel xs ps) : xs.length = ps.length := by
  induction h with
  | nil => rfl
  | cons _ ih => simp [ih]
def pget (ps : List ((Int × Int) × Int)) (k : Int × Int) : Option Int := (ps.find? fun p => decide (p.1 = k)).map (·.2)
theorem TRel.at_ {xs : TKV} {ps : List ((Int × Int) × Int)} (h : TRel xs ps) (u v : Int) : (atKey xs [u, v] = none ∧ pget ps (u, v) = none) ∨ ∃ a c t, atKey xs [u, v] = some (a, .int c t) ∧ pget ps (u, v) = some c := by
  induction h with
  | nil => exact .inl ⟨rfl, rfl⟩
  | @cons u' v' c a t xs ps _ ih =>
    by_cases e : u' = u ∧ v' = v
    · obtain ⟨rfl, rfl⟩ := e
      exact .inr ⟨a, c, t, by simp [atKey], by simp [pget]⟩
    · have e1 : ¬ ([u', v'] : List Int) = [u, v] := fun q => e (by simpa using q)
      have e2 : ¬ ((u', v') : Int × Int) = (u, v) := fun q => e (by simpa using q)
      simpa [atKey, pget, List.find?_cons, e1, e2] using ih

section
variable {w : World} {A : Around} {E : Value → Shared → Prop} {h₀ : Heap} {L : Addr} {ns : List Str} {vs : List (Option Value)} {l : List (Addr × Assn)} {b s : Shared} {env : Env} {d a : Addr} {xs : TKV} {ps : List ((Int × Int) × Int)} {u v : Int}

theorem ATD.empty (o : Obj) (h : AEmpty o) : ATD w [] o := by
  rw [AEmpty] at h; subst h
  exact ⟨⟨rfl, rfl, rfl⟩, ⟨#[], 0, rfl, rfl⟩, List.nodup_nil⟩
theorem AKey.made {u v : Int} {t t' : Tok} (o : Obj) (h : ATup [.int u t, .int v t'] o) : AKey w [u, v] o := by
  obtain ⟨h1, n, h2⟩ := h
  exact ⟨h1, _, n, h2, .cons (ik_is w u t) (.cons (ik_is w v t') .nil)⟩

theorem St.tdict (S : St h₀ L ns vs l b s) (hd : (d, ATD w xs) ∈ l) (hk : ∀ p ∈ tkL w xs, p ∈ l) : s.heap.DictOfH (tupleKind (IK w)) d xs := by
  obtain ⟨o, ho, h1, ⟨es, ep, h2, h3⟩, h4⟩ := S.mem hd
  refine ⟨o, es, ep, ho, h1, h2, h3, fun x hx => ?_, h4⟩
  obtain ⟨ok, e, tk⟩ := S.mem (a := x.2.1) (P := AKey w x.1) (hk _ (List.mem_map_of_mem (f := fun x : List Int × Addr × Value => ((x.2.1, AKey w x.1) : Addr × Assn)) hx))
  exact tk.key e
theorem St.tkey (S : St h₀ L ns vs l b s) {ks : List Int} (ha : (a, AKey w ks) ∈ l) : (tupleKind (IK w)).is s.heap ks a := by
  obtain ⟨ok, e, tk⟩ := S.mem ha
  exact tk.key e

/-- edge not in least -/
theorem s_tnotin {Q : Value → Shared → Prop} (S : St h₀ L ns vs l b s) (r : Rm A 1) (T : TRel xs ps) (hd : (d, ATD w xs) ∈ l) (hk : ∀ p ∈ tkL w xs, p ∈ l) (ha : (a, AKey w [u, v]) ∈ l)
    (h : ∀ s', St h₀ L ns vs l b s' → Q (.bool (!(pget ps (u, v)).isSome)) s') : wpAny (model PG w) A (compareOp .NotIn (.ref a) (.ref d)) Q E s := by
  refine wpAny_notIn_heap (knd := tupleKind (IK w)) (tupleKind_room_in1 (by have := r.uni; show _ < 9900; omega)) (S.tkey ha) (S.N.1 _ hd).2.2.2 (S.tdict hd hk) ?_
  have e : (atKey xs [u, v]).isSome = (pget ps (u, v)).isSome := by
    rcases T.at_ u v with ⟨h1, h2⟩ | ⟨a, c, t, h1, h2⟩ <;> rw [h1, h2] <;> rfl
  rw [e]; exact h _ (S.tok _)

/-- least[u, v] -/
theorem s_titem {value slice : PySem.Expr} {c : Int} {Q : Value → Shared → Prop} (S : St h₀ L ns vs l b s) (r : Rm A 1) (T : TRel xs ps) (hd : (d, ATD w xs) ∈ l) (hk : ∀ p ∈ tkL w xs, p ∈ l) (ha : (a, AKey w [u, v]) ∈ l) (hl : pget ps (u, v) = some c)
    (h : ∀ t s', St h₀ L ns vs l b s' → Q (.int c t) s')
    (hs : subscripted slice false (.ref d) (.ref a) = operate [.ref d, .ref a] (getItem (.ref d) (.ref a)) := by with_unfolding_all rfl) : wpAny (model PG w) A (subscriptTail value slice (.ref d) (.ref a)) Q E s := by
  have hD := S.tdict hd hk
  rcases T.at_ u v with ⟨_, h2⟩ | ⟨a', c', t, h1, h2⟩
  · rw [h2] at hl; cases hl
  rw [h2] at hl; obtain rfl := Option.some.inj hl
  exact tail_any hD.typeIs slot_dict_getitem.lookup (wpAny_getItem_heap (knd := tupleKind (IK w)) (tupleKind_room_in1 (by have := r.uni; show _ < 9900; omega)) (S.tkey ha) hD h1 (h t _ (S.tok _))) hs

/-- least[edge] = coin, a new one -/
theorem s_tset {c : Int} {t : Tok} {Q : Unit → Shared → Prop} (S : St h₀ L ns vs l b s) (r : Rm A 1) (T : TRel xs ps) (i : Nat) (hi : l[i]? = some (d, ATD w xs)) (hk : ∀ p ∈ tkL w xs, p ∈ l) (ha : (a, AKey w [u, v]) ∈ l) (hl : pget ps (u, v) = none) (hz : xs.length ≤ 1000)
    (h : ∀ s', St h₀ L ns vs (l.set i (d, ATD w (xs ++ [([u, v], a, .int c t)]))) b s' → Q () s') : wpAny (model PG w) A (setItem (.ref d) (.ref a) (.int c t)) Q E s := by
  have hD := S.tdict (List.mem_of_getElem? hi) hk
  refine wpAny_setItem_heap (hsz := by rw [sizeLine_eq]; omega) (knd := tupleKind (IK w)) (tupleKind_room_in1 (by have := r.uni; show _ < 9900; omega)) (S.tkey ha) hD fun h' hm hs => ?_
  rcases T.at_ u v with ⟨h1, _⟩ | ⟨_, _, _, _, h2⟩
  · rw [storedH_new h1] at hm
    obtain ⟨o, es, ep, ho, hc, hdat, he, _, hn⟩ := hm
    exact h _ (S.upd (s' := { s with heap := h', toks := s.toks + 3 }) hi (fun c o hc e => (hs.2 c hc).trans e) rfl rfl rfl ho ⟨hc, ⟨es, ep, hdat, he⟩, hn⟩)
  · rw [h2] at hl; cases hl
end
end Mine
end

section
set_option maxRecDepth 100000
set_option maxHeartbeats 4000000
set_option linter.unusedVariables false
set_option pp.deepTerms false
set_option pp.deepTerms.threshold 4
namespace Mine
open PySem PySem.W PySem.Calls PyProof.Rows

/-- the law's own def: the last of the program's text -/
def lastDef : List Stmt → Option DefRec
  | [] => none
  | [.FunctionDef m ps b _ _ _ sc _ _ p] => some ⟨m, ps, b, sc, p⟩
  | _ :: r => lastDef r
def lawRec? : Option DefRec := lastDef PySem.Challenge.pw_ab5042_01.main.body
theorem law_some : lawRec?.isSome = true := by rfl
def lawRec : DefRec := lawRec?.get law_some
theorem law_len : lawRec.body.length = 18 := by rfl
def lawEnv (L fa : Addr) (cd : Value) : Env := envOfC lawRec.name lawRec.scope L fa cd
abbrev lawNs : List Str := ["k", "coins", "G", "rest", "least", "coin", "edge", "sums", "way", "gaps", "count_v"]
theorem lawEv (L fa : Addr) (cd : Value) : Ev (lawEnv L fa cd) L lawNs := by
  refine ⟨by rfl, rfl, ?_, by decide +kernel, by decide +kernel, rfl, rfl⟩
  intro x hx
  have : lawNs.all (fun x => lawRec.scope.names.lookup x == some .local) = true := by decide +kernel
  exact eq_of_beq (List.all_eq_true.mp this x hx)
/-- the law's cells -/
def cellL (L : Addr) (script first lengths paid total common : Option Value) : List (Addr × Assn) :=
  [(L + 1, ACell script), (L + 2, ACell first), (L + 3, ACell lengths), (L + 4, ACell paid), (L + 5, ACell total), (L + 6, ACell common)]
theorem lawCells (L fa : Addr) (cd : Value) : (lawEnv L fa cd).cells = ([("common", L + 6), ("total", L + 5), ("paid", L + 4), ("lengths", L + 3), ("first", L + 2), ("script", L + 1)] : List (Str × Addr)) := by rfl
theorem lawKind (L fa : Addr) (cd : Value) : (["script", "first", "lengths", "paid", "total", "common"] : List Str).all (fun x => (lawEnv L fa cd).kindOf x == some .cell) = true := by rfl

def bodyFrom (i : Nat) : List Stmt := lawRec.body.drop i

theorem law_a {w : World} {A : Around} {Q : Flow → Shared → Prop} {h₀ : Heap} {L fa : Addr} {cd : Value} {b s : Shared} {sa : Addr} {xs : List Value} {ms : List Int} {rest : List (Addr × Assn)} {E : Value → Shared → Prop}
    (S : St h₀ L lawNs [none, none, none, none, none, none, none, none, none, none, none] (cellL L (some (.ref sa)) none none none none none ++ rest) b s) (W : Wd w h₀) (r : Rm A 40) (hl : h₀.IsList sa xs.toArray) (hi : IntsAre xs ms) (hz : ms.length ≤ 1000)
    (k : ∀ t s', St h₀ L lawNs [none, none, none, none, none, none, none, none, none, none, none] (cellL L (some (.ref sa)) (some (.int (2 + ms.getD 0 5 % 8) t)) none none none none ++ rest) b s' → wpAny (model PG w) A (execs (bodyFrom 1) (lawEnv L fa cd)) Q E s') :
    wpAny (model PG w) A (execs (bodyFrom 0) (lawEnv L fa cd)) Q E s := by
  have e := lawEv L fa cd
  refine wpAny_execs_cons ?_
  refine wpAny_Assign_Name ?_
  refine wpAny_BinOp ?_
  with_reducible refine s_ci S ?_
  clear S; intro t1 s S
  refine wpAny_BinOp ?_
  refine Call_ ?_
  refine ld_g e W S (.ref 1047) (by k_is) rfl ?_
  refine cw_f3 W (by k_is) ?_
  refine ld_c S 0 rfl rfl rfl rfl ?_
  with_reducible refine s_ci S ?_
  clear S; intro t2 s S
  with_reducible refine s_ci S ?_
  clear S; intro t3 s S
  refine ⟨W.at S, wpAny_call ?_⟩
  refine at_spec (W.at S) (r.le (by decide)) (let ⟨o, a, c⟩ := hl; ⟨o, S.F.keep _ _ a, c⟩) hi (Int.le_refl _) (by decide) hz ?_
  intro t4 s' K
  replace S := S.after K
  with_reducible refine s_ci S ?_
  clear S; intro t5 s S
  with_reducible refine s_mod S (by decide) ?_
  clear S; intro t6 s S
  with_reducible refine s_add S ?_
  clear S; intro t7 s S
  refine st_c S 1 rfl rfl rfl rfl ?_
  clear S; intro s S
  exact k t7 s S
end Mine
end

section
set_option linter.unusedVariables false
namespace Mine
open PySem
theorem rsize_up {a b c : Int} (hc : 0 < c) (h : a < b) : Builtin.Range.rangeSize a b c = (b - a - 1) / c + 1 := by
  unfold Builtin.Range.rangeSize; rw [if_pos hc, if_pos h]
theorem rsize_0 {a b c : Int} (hc : 0 < c) (h : ¬ a < b) : Builtin.Range.rangeSize a b c = 0 := by
  unfold Builtin.Range.rangeSize; rw [if_pos hc, if_neg h]
theorem rsize1 {a n : Int} : Builtin.Range.rangeSize a n 1 = (n - a).toNat := by
  by_cases h : a < n
  · rw [rsize_up (by decide) h]; omega
  · rw [rsize_0 (by decide) h]; omega
theorem rfits {i : Int} (h0 : -100000 ≤ i) (h1 : i ≤ 100000) : Builtin.Range.rangeFitsLong i = true := by
  unfold Builtin.Range.rangeFitsLong
  simp; omega
theorem rsmall {a b c : Int} (ha : 0 ≤ a) (ha' : a ≤ 10000) (hb : 0 ≤ b) (hb' : b ≤ 10000) (hc : 0 < c) (hc' : c ≤ 10000) : Builtin.Range.small a b c = true := by
  have hs : 0 ≤ Builtin.Range.rangeSize a b c ∧ Builtin.Range.rangeSize a b c ≤ 100000 := by
    by_cases h : a < b
    · rw [rsize_up hc h]
      have h1 : 0 ≤ (b - a - 1) / c := Int.ediv_nonneg (by omega) (by omega)
      have h2 : (b - a - 1) / c ≤ b - a - 1 := Int.ediv_le_self _ (by omega)
      omega
    · rw [rsize_0 hc h]; omega
  unfold Builtin.Range.small
  rw [rfits (by omega) (by omega), rfits (by omega) (by omega), rfits (by omega) (by omega), rfits (by omega) (by omega), if_pos hc, rfits (by omega) (by omega)]
  simp
end Mine
end

section
set_option maxRecDepth 100000
set_option maxHeartbeats 4000000
set_option linter.unusedVariables false
set_option pp.deepTerms false
set_option pp.deepTerms.threshold 4
namespace Mine
open PySem PySem.W PySem.Calls PyProof.Rows

def coinAt (ms : List Int) (i : Nat) : Int := 2 + ms.getD (2 + i) (([3, 7, 10] : List Int).getD i 0) % 14
def coinsOf (ms : List Int) : List Int := (List.range (1 + ms.getD 1 1 % 3).toNat).map (coinAt ms)

theorem nth3 : ∀ i, i < 3 → ([3, 7, 10] : List Int)[i]? = some (([3, 7, 10] : List Int).getD i 0) := by decide

theorem law_b {w : World} {A : Around} {Q : Flow → Shared → Prop} {h₀ : Heap} {L fa : Addr} {cd : Value} {b s : Shared} {sa : Addr} {xs : List Value} {ms : List Int} {rest : List (Addr × Assn)} {E : Value → Shared → Prop} {fi : Option Value}
    (S : St h₀ L lawNs [none, none, none, none, none, none, none, none, none, none, none] (cellL L (some (.ref sa)) fi none none none none ++ rest) b s) (W : Wd w h₀) (r : Rm A 40) (hl : h₀.IsList sa xs.toArray) (hi : IntsAre xs ms) (hz : ms.length ≤ 1000)
    (k : ∀ ca cs s', IntsAre cs (coinsOf ms) → St h₀ L lawNs [none, some (.ref ca), none, none, none, none, none, none, none, none, none] ((ca, AList cs) :: (cellL L (some (.ref sa)) fi none none none none ++ rest)) b s' → wpAny (model PG w) A (execs (bodyFrom 2) (lawEnv L fa cd)) Q E s') :
    wpAny (model PG w) A (execs (bodyFrom 1) (lawEnv L fa cd)) Q E s := by
  have e := lawEv L fa cd
  refine wpAny_execs_cons ?_
  refine s_compAssign (cl := [("script", L + 1)]) (by rfl) (by rfl) (by rfl) ?_
  refine Call_ ?_
  refine ld_b e W S (.type "range") (by k_is) rfl (by boot_by_name) (by decide) ?_
  refine cw_t1 ?_
  refine wpAny_BinOp ?_
  with_reducible refine s_ci S ?_
  clear S; intro t1 s S
  refine wpAny_BinOp ?_
  refine Call_ ?_
  refine ld_g e W S (.ref 1047) (by k_is) rfl ?_
  refine cw_f3 W (by k_is) ?_
  refine ld_c S 0 rfl rfl rfl rfl ?_
  with_reducible refine s_ci S ?_
  clear S; intro t2 s S
  with_reducible refine s_ci S ?_
  clear S; intro t3 s S
  refine ⟨W.at S, wpAny_call ?_⟩
  refine at_spec (W.at S) (r.le (by decide)) (let ⟨o, a, c⟩ := hl; ⟨o, S.F.keep _ _ a, c⟩) hi (by decide) (by decide) hz ?_
  intro t4 s' K
  replace S := S.after K
  with_reducible refine s_ci S ?_
  clear S; intro t5 s S
  with_reducible refine s_mod S (by decide) ?_
  clear S; intro t6 s S
  with_reducible refine s_add S ?_
  clear S; intro t7 s S
  refine s_range1 S ?_
  clear S; intro rg s S
  obtain ⟨m, hm⟩ : ∃ m : Int, 1 + ms.getD 1 1 % 3 = m := ⟨_, rfl⟩
  have hm0 : (1 + ms.getD (1 : Int).toNat 1 % 3 : Int) = m := hm
  rw [hm0] at S
  have hm1 : 0 ≤ m := by rw [← hm]; have := Int.emod_nonneg (ms.getD 1 1) (show (3 : Int) ≠ 0 by decide); omega
  have hm3 : m ≤ 3 := by rw [← hm]; have := Int.emod_lt_of_pos (ms.getD 1 1) (show (0 : Int) < 3 by decide); omega
  clear hm0
  refine it_range (n := m.toNat) S (rsmall (by decide) (by decide) hm1 (by omega) (by decide) (by decide)) (by rw [rsize1, Int.sub_zero]) ?_
  clear S; intro I s S
  have hIf : h₀.get? I = none := (S.N.1 _ List.mem_cons_self).2.2.1
  refine s_compU (fun i ys => IntsAre ys ((List.range i).map (coinAt ms))) S (Steps.range r.hh I 0 1 m.toNat) (by omega) (by rfl) rfl rfl (fun _ _ => trivial) .nil ?_ ?_
  · rintro i v ys C h₁ hid s' hlt ⟨t, rfl⟩ hP hlen base S' ev
    have W' : Wd w h₁ := W.keep fun a o q => base a o (fun e' => by rw [e'] at q; rw [hIf] at q; cases q) (S.F.keep _ _ q)
    have hl' : h₁.IsList sa xs.toArray := let ⟨o, a, c⟩ := hl; ⟨o, base _ _ (fun e' => by rw [e'] at a; rw [hIf] at a; cases a) (S.F.keep _ _ a), c⟩
    have hcell : h₁.IsCell (L + 1) (some (.ref sa)) := by
      obtain ⟨o, a, c⟩ := S.at (i := 1) rfl
      exact ⟨o, base _ _ (fun q => by have := S.ne 1 0 rfl rfl rfl; exact this q) a, c⟩
    refine wpAny_pure ?_
    rw [if_pos rfl]
    refine wpAny_BinOp ?_
    with_reducible refine s_ci S' ?_
    clear S'; intro t1 s' S'
    refine wpAny_BinOp ?_
    refine Call_ ?_
    refine ld_g ev W' S' (.ref 1047) (by k_is) rfl ?_
    refine cw_f3 W' (by k_is) ?_
    refine ld_c0 S' hcell rfl rfl rfl ?_
    refine wpAny_BinOp ?_
    with_reducible refine s_ci S' ?_
    clear S'; intro t2 s' S'
    refine ld_i ev S' 0 rfl rfl ?_
    with_reducible refine s_add S' ?_
    clear S'; intro t3 s' S'
    with_reducible refine Subscript_ ?_
    refine s_list3 ?_
    with_reducible refine s_ci S' ?_
    clear S'; intro t4 s' S'
    with_reducible refine s_ci S' ?_
    clear S'; intro t5 s' S'
    with_reducible refine s_ci S' ?_
    clear S'; intro t6 s' S'
    refine s_newListP S' rfl ?_
    clear S'; intro la s' S'
    replace S' := S'.mono (i := 0) (P' := AIntL [3, 7, 10]) rfl (fun o h => ⟨_, h, .cons _ _ (.cons _ _ (.cons _ _ .nil))⟩)
    refine ld_i ev S' 0 rfl rfl ?_
    have hi3 : i < 3 := by omega
    refine s_nth (x := ([3, 7, 10] : List Int).getD i 0) S' 0 rfl (by omega) (by omega) ?_ ?_
    · have : (0 + (i : Int) * 1).toNat = i := by omega
      rw [this]
      exact nth3 i hi3
    intro t7
    replace S' := S'.tl
    refine ⟨W'.at S', wpAny_call ?_⟩
    refine at_spec (W'.at S') (r.le (by decide)) (let ⟨o, a, c⟩ := hl'; ⟨o, S'.F.keep _ _ a, c⟩) hi (by omega) (by omega) hz ?_
    intro t8 s'' K
    replace S' := S'.after K
    with_reducible refine s_ci S' ?_
    clear S'; intro t9 s' S'
    with_reducible refine s_mod S' (by decide) ?_
    clear S'; intro t10 s' S'
    with_reducible refine s_add S' ?_
    clear S'; intro t11 s' S'
    refine ⟨?_, _, S'⟩
    have hc : (2 + ms.getD (2 + (0 + (i : Int) * 1)).toNat (([3, 7, 10] : List Int).getD i 0) % 14 : Int) = coinAt ms i := by
      have : (2 + (0 + (i : Int) * 1)).toNat = 2 + i := by omega
      rw [this]; rfl
    rw [List.range_succ, List.map_append, List.map_singleton, ← hc]
    exact intsAre_snoc hP _ _
  · intro C D ys s' hP _ S'
    refine post_store e S' 1 rfl ?_
    clear S'; intro s2 S'
    exact k D ys s2 (by rw [coinsOf, hm]; exact hP) S'
end Mine
end

section
set_option maxRecDepth 100000
set_option maxHeartbeats 4000000
set_option linter.unusedVariables false
set_option pp.deepTerms false
set_option pp.deepTerms.threshold 4
namespace Mine
open PySem PySem.W PySem.Calls PyProof.Rows

theorem cw_fm1 {w : World} {A : Around} {E : Value → Shared → Prop} {h₀ : Heap} {s : Shared} {env : Env} {pos : Pos} {f : Addr} {o : Value} {e : PySem.Expr} {Q : Value → Shared → Prop} (W : Wd w h₀) (hk : keepIn (hd.heap_39 w.params) (.ref f) = true)
    (h : wpAny (model PG w) A (eval e env) (fun v s₁ => Wd w s₁.heap ∧ wpAny (model PG w) A (call (.ref f) [o, v]) Q E s₁) E s) (he : starEach [e] env = (false, eval e env) :: starEach [] env := by rfl) :
    wpAny (model PG w) A (callWith pos (.ref f) [o] (backTo pos (starEach [e] env)) []) Q E s :=
  callWith_K W.X hk (spliced_more (wpAny_mono h (fun v s₁ h₁ => spliced_none ⟨h₁.1.X, h₁.2⟩) fun _ _ x => x) he) he

theorem nodeL_perm (w : World) : ∀ rs : List NRec, (nodeL w rs).Perm (rs.map (fun r => ((r.na, ADict (SK w) []) : Addr × Assn)) ++ (rs.map (fun r => (r.sa, ADict (IK w) [])) ++ rs.map (fun r => (r.pa, ADict (IK w) []))))
  | [] => .nil
  | r :: rs => by
    show List.Perm (_ :: _ :: _ :: nodeL w rs) (_ :: (_ ++ ((_ :: _) ++ (_ :: _))))
    refine List.Perm.cons _ ?_
    refine List.Perm.trans (.cons _ (.cons _ (nodeL_perm w rs))) ?_
    refine List.Perm.trans (List.perm_append_comm_assoc [_, _] _ _) ?_
    refine List.Perm.append_left _ ?_
    refine List.Perm.cons _ ?_
    show List.Perm (_ :: (_ ++ _)) (_ ++ (_ :: _))
    rw [List.nil_append]
    exact List.perm_middle.symm
theorem St.toGL {w : World} {h₀ : Heap} {L L' : Addr} {ns : List Str} {vs : List (Option Value)} {b s : Shared} {x dx ag an aa ap D : Addr} {P : Assn} {rs : List NRec} {c1 c2 c3 c4 c5 c6 : Option Value} {rest : List (Addr × Assn)}
    (S : St h₀ L ns vs ([(x, AObj (instObj 1030 dx)), (dx, AFld w (gFld ag an aa ap)), (an, ADict (IK w) (naKv rs)), (aa, ADict (IK w) (saKv rs)), (ap, ADict (IK w) (paKv rs))] ++ nodeL w rs ++ (((D, P) :: cellL L' c1 c2 c3 c4 c5 c6) ++ rest)) b s) :
    St h₀ L ns vs (cellL L' c1 c2 c3 c4 c5 c6 ++ (GL w x dx ag an aa ap rs (fun _ => []) (fun _ => []) [] ++ rest)) b s := by
  generalize cellL L' c1 c2 c3 c4 c5 c6 = CL at S ⊢
  have h1 := S.perm (l' := ((D, P) :: rs.map (fun r => ((r.na, ADict (SK w) []) : Addr × Assn))) ++ (CL ++ (GL w x dx ag an aa ap rs (fun _ => []) (fun _ => []) [] ++ rest))) (by
    unfold GL
    generalize [(x, AObj (instObj 1030 dx)), (dx, AFld w (gFld ag an aa ap)), (an, ADict (IK w) (naKv rs)), (aa, ADict (IK w) (saKv rs)), (ap, ADict (IK w) (paKv rs))] = G5
    refine List.Perm.symm ?_
    rw [List.append_assoc, List.append_assoc]
    refine List.Perm.trans (.append_left _ (.append_right _ (nodeL_perm w rs))) ?_
    simp only [List.map_nil, List.append_nil, List.append_assoc, List.cons_append]
    refine List.Perm.trans (List.perm_append_comm_assoc _ _ _) ?_
    refine List.Perm.trans ?_ List.perm_middle
    refine List.Perm.append_left _ ?_
    generalize rs.map (fun r => ((r.sa, ADict (IK w) []) : Addr × Assn)) = SA
    generalize rs.map (fun r => ((r.pa, ADict (IK w) []) : Addr × Assn)) = PA
    refine List.Perm.trans (l₂ := ((D, P) :: CL) ++ (G5 ++ (SA ++ (PA ++ rest)))) ?_ (List.Perm.refl _)
    have e1 : G5 ++ (SA ++ (PA ++ (D, P) :: (CL ++ rest))) = (G5 ++ (SA ++ PA)) ++ (((D, P) :: CL) ++ rest) := by simp
    have e2 : G5 ++ (SA ++ (PA ++ rest)) = (G5 ++ (SA ++ PA)) ++ rest := by simp
    rw [e1, e2]
    exact List.perm_append_comm_assoc _ _ _)
  exact h1.sub (List.sublist_append_right _ _)

def nodesOf (ms : List Int) (F : Int) : List Int := (List.range F.toNat).map fun i : Nat => ((i : Int) + ms.getD 5 0) % F

theorem nodesOf_nodup {ms : List Int} {F : Int} (h2 : 2 ≤ F) (h9 : F ≤ 9) : (nodesOf ms F).Nodup := by
  unfold nodesOf
  refine List.pairwise_map.mpr (List.Pairwise.imp_of_mem ?_ (List.nodup_range))
  intro a b ha hb hab he
  have ha := List.mem_range.mp ha
  have hb := List.mem_range.mp hb
  generalize ms.getD 5 0 = o at he
  have hc : F = 2 ∨ F = 3 ∨ F = 4 ∨ F = 5 ∨ F = 6 ∨ F = 7 ∨ F = 8 ∨ F = 9 := by omega
  rcases hc with rfl | rfl | rfl | rfl | rfl | rfl | rfl | rfl <;> omega
theorem nodesOf_mem {ms : List Int} {F : Int} (h2 : 2 ≤ F) (h9 : F ≤ 9) {k : Int} : k ∈ nodesOf ms F ↔ 0 ≤ k ∧ k < F := by
  unfold nodesOf
  rw [List.mem_map]
  generalize ms.getD 5 0 = o
  constructor
  · rintro ⟨i, _, rfl⟩
    exact ⟨Int.emod_nonneg _ (by omega), Int.emod_lt_of_pos _ (by omega)⟩
  · rintro ⟨h0, h1⟩
    refine ⟨((k - o) % F).toNat, List.mem_range.mpr ?_, ?_⟩
    · have := Int.emod_nonneg (k - o) (show F ≠ 0 by omega)
      have := Int.emod_lt_of_pos (k - o) (show 0 < F by omega)
      omega
    · have hc : F = 2 ∨ F = 3 ∨ F = 4 ∨ F = 5 ∨ F = 6 ∨ F = 7 ∨ F = 8 ∨ F = 9 := by omega
      rcases hc with rfl | rfl | rfl | rfl | rfl | rfl | rfl | rfl <;> omega

theorem law_c {w : World} {A : Around} {Q : Flow → Shared → Prop} {h₀ : Heap} {L fa : Addr} {cd : Value} {b s : Shared} {vc : Option Value} {rest : List (Addr × Assn)} {E : Value → Shared → Prop}
    (S : St h₀ L lawNs [none, vc, none, none, none, none, none, none, none, none, none] rest b s) (W : Wd w h₀) (r : Rm A 40)
    (k : ∀ x dx ag an aa ap s', St h₀ L lawNs [none, vc, some (.ref x), none, none, none, none, none, none, none, none] (newG w x dx ag an aa ap ++ rest) b s' → wpAny (model PG w) A (execs (bodyFrom 3) (lawEnv L fa cd)) Q E s') :
    wpAny (model PG w) A (execs (bodyFrom 2) (lawEnv L fa cd)) Q E s := by
  have e := lawEv L fa cd
  refine wpAny_execs_cons ?_
  refine wpAny_Assign_Name ?_
  refine Call_ ?_
  refine ld_g e W S (.ref 1030) (by k_is) rfl ?_
  refine callWith_K0 (W.at S).X (by k_is) ?_
  refine digraph_call S W (r.le (by decide)) ?_
  intro x dx ag an aa ap s' S'
  clear S
  refine st_i e S' 2 rfl ?_
  clear S'; intro s2 S
  exact k x dx ag an aa ap s2 S

theorem law_d {w : World} {A : Around} {Q : Flow → Shared → Prop} {h₀ : Heap} {L fa : Addr} {cd : Value} {b s : Shared} {vc : Option Value} {x dx ag an aa ap sa : Addr} {F : Int} {ft : Tok} {xs : List Value} {ms : List Int} {rest : List (Addr × Assn)} {E : Value → Shared → Prop}
    (S : St h₀ L lawNs [none, vc, some (.ref x), none, none, none, none, none, none, none, none] (cellL L (some (.ref sa)) (some (.int F ft)) none none none none ++ (newG w x dx ag an aa ap ++ rest)) b s) (W : Wd w h₀) (r : Rm A 40)
    (hl : h₀.IsList sa xs.toArray) (hi : IntsAre xs ms) (hz : ms.length ≤ 1000) (hF : 2 ≤ F) (hF2 : F ≤ 9)
    (k : ∀ rs s', rs.map (·.k) = nodesOf ms F → St h₀ L lawNs [none, vc, some (.ref x), none, none, none, none, none, none, none, none] (cellL L (some (.ref sa)) (some (.int F ft)) none none none none ++ (GL w x dx ag an aa ap rs (fun _ => []) (fun _ => []) [] ++ rest)) b s' → wpAny (model PG w) A (execs (bodyFrom 4) (lawEnv L fa cd)) Q E s') :
    wpAny (model PG w) A (execs (bodyFrom 3) (lawEnv L fa cd)) Q E s := by
  have e := lawEv L fa cd
  refine wpAny_execs_cons ?_
  refine wpAny_Expr ?_
  refine MethodCall_ ?_
  refine ld_i e S 2 rfl rfl ?_
  refine s_meth 921 S W.X (S.inst 6 7 rfl rfl) (by k_is) (by k_is) (by k_is) (by rfl) ?_
  refine cw_fm1 W (by k_is) ?_
  refine s_compEval (cl := _) (by rfl) (by rfl) ?_
  refine Call_ ?_
  refine ld_b e W S (.type "range") (by k_is) rfl (by boot_by_name) (by decide) ?_
  refine cw_t1 ?_
  refine ld_c S 1 rfl rfl rfl rfl ?_
  refine s_range1 S ?_
  clear S; intro rg s S
  refine it_range (n := F.toNat) S (rsmall (by decide) (by decide) (by omega) (by omega) (by decide) (by decide)) (by rw [rsize1, Int.sub_zero]) ?_
  clear S; intro I s S
  have hIf : h₀.get? I = none := (S.N.1 _ List.mem_cons_self).2.2.1
  refine s_comp (fun i ys => IntsAre ys ((List.range i).map fun i : Nat => ((i : Int) + ms.getD 5 0) % F)) S (Steps.range r.hh I 0 1 F.toNat) (by omega) (by rfl) rfl rfl (fun _ _ => trivial) .nil ?_ ?_
  · rintro i v ys C h₁ hid s' hlt ⟨t, rfl⟩ hP hlen base S' ev
    have W' : Wd w h₁ := W.keep fun a o q => base a o (fun e' => by rw [e'] at q; rw [hIf] at q; cases q) (S.F.keep _ _ q)
    have hl' : h₁.IsList sa xs.toArray := let ⟨o, a, c⟩ := hl; ⟨o, base _ _ (fun e' => by rw [e'] at a; rw [hIf] at a; cases a) (S.F.keep _ _ a), c⟩
    have hc1 : h₁.IsCell (L + 1) (some (.ref sa)) := by
      obtain ⟨o, a, c⟩ := S.at (i := 1) rfl
      exact ⟨o, base _ _ (fun q => by have := S.ne 1 0 rfl rfl rfl; exact this q) a, c⟩
    have hc2 : h₁.IsCell (L + 2) (some (.int F ft)) := by
      obtain ⟨o, a, c⟩ := S.at (i := 2) rfl
      exact ⟨o, base _ _ (fun q => by have := S.ne 2 0 rfl rfl rfl; exact this q) a, c⟩
    refine wpAny_pure ?_
    rw [if_pos rfl]
    refine wpAny_BinOp ?_
    refine wpAny_BinOp ?_
    refine ld_i ev S' 0 rfl rfl ?_
    refine Call_ ?_
    refine ld_g ev W' S' (.ref 1047) (by k_is) rfl ?_
    refine cw_f3 W' (by k_is) ?_
    refine ld_c0 S' hc1 rfl rfl rfl ?_
    with_reducible refine s_ci S' ?_
    clear S'; intro t2 s' S'
    with_reducible refine s_ci S' ?_
    clear S'; intro t3 s' S'
    refine ⟨W'.at S', wpAny_call ?_⟩
    refine at_spec (W'.at S') (r.le (by decide)) (let ⟨o, a, c⟩ := hl'; ⟨o, S'.F.keep _ _ a, c⟩) hi (by decide) (by decide) hz ?_
    intro t8 s'' K
    replace S' := S'.after K
    with_reducible refine s_add S' ?_
    clear S'; intro t9 s' S'
    refine ld_c0 S' hc2 rfl rfl rfl ?_
    with_reducible refine s_mod S' (by omega) ?_
    clear S'; intro t11 s' S'
    refine ⟨?_, _, S'⟩
    have hc : ((0 + (i : Int) * 1) + ms.getD (5 : Int).toNat 0) % F = ((i : Int) + ms.getD 5 0) % F := by
      have : (0 + (i : Int) * 1) = i := by omega
      rw [this]; rfl
    rw [List.range_succ, List.map_append, List.map_singleton, ← hc]
    exact intsAre_snoc hP _ _
  clear S; intro D ys s' hP _ S
  refine ⟨W.at S, wpAny_call ?_⟩
  have S1 := S.perm (l' := newG w x dx ag an aa ap ++ (((D, AList ys) :: cellL L (some (.ref sa)) (some (.int F ft)) none none none none) ++ rest)) (List.perm_append_comm_assoc _ _ _)
  clear S
  refine nodes_spec S1 W (r.le (by decide)) (nl := D) (xs := ys) List.mem_cons_self hP (nodesOf_nodup hF hF2) (by simp; omega) ?_
  clear S1; intro rs s2 hrs S
  refine k rs s2 hrs ?_
  exact S.toGL
end Mine
end

section
set_option maxRecDepth 100000
set_option maxHeartbeats 4000000
set_option linter.unusedVariables false
set_option pp.deepTerms false
set_option pp.deepTerms.threshold 4
namespace Mine
open PySem PySem.W PySem.Calls PyProof.Rows

theorem IV.keysM {kvs : IKV} {m : MP} (h : IV kvs m) : kvs.map (·.1) = m.map (·.1) := by
  induction h with
  | nil => rfl
  | cons _ ih => simp [ih]
theorem ints_of_kvs {w : World} : ∀ {kvs : IKV} {us : List Value}, us.length = kvs.length → (∀ (j : Nat) (v : Value), us[j]? = some v → ∃ k x, kvs[j]? = some (k, x) ∧ (IK w).is k v = true) → IntsAre us (kvs.map (·.1))
  | [], [], _, _ => .nil
  | [], _ :: _, h, _ => nomatch h
  | _ :: _, [], h, _ => nomatch h
  | kv :: kvs, u :: us, h3, h4 => by
    obtain ⟨k, x, h5, h6⟩ := h4 0 u rfl
    obtain ⟨t, rfl⟩ : ∃ t, u = .int k t := Value.isInt_shape h6
    cases h5
    exact .cons _ _ (ints_of_kvs (w := w) (by simpa using h3) fun j v e => h4 (j + 1) v e)

section
variable {w : World} {A : Around} {E : Value → Shared → Prop} {h₀ : Heap} {L : Addr} {ns : List Str} {vs : List (Option Value)} {l : List (Addr × Assn)} {b s : Shared} {env : Env} {a c : Addr}

theorem St.newsAll (S : St h₀ L ns vs l b s) : ∃ nw : List (Addr × Obj), News h₀ L s.heap nw ∧ ∀ p ∈ l, ∃ o, (p.1, o) ∈ nw ∧ p.2 o := by
  have key : ∀ l' : List (Addr × Assn), (∀ p ∈ l', p ∈ l) → ∃ nw : List (Addr × Obj), News h₀ L s.heap nw ∧ ∀ p ∈ l', ∃ o, (p.1, o) ∈ nw ∧ p.2 o := by
    intro l'
    induction l' with
    | nil => intro _; exact ⟨[], News.nil, fun p h => (nomatch h)⟩
    | cons q l' ih =>
      intro h
      obtain ⟨nw, N, k⟩ := ih fun p hp => h p (List.mem_cons_of_mem _ hp)
      obtain ⟨⟨o, ho, hq⟩, r1, r2, r3⟩ := S.N.1 q (h q List.mem_cons_self)
      refine ⟨(q.1, o) :: nw, fun p hp => ?_, fun p hp => ?_⟩
      · rcases List.mem_cons.mp hp with rfl | hp
        · exact ⟨ho, r1, r2⟩
        · exact N p hp
      · rcases List.mem_cons.mp hp with rfl | hp
        · exact ⟨o, List.mem_cons_self, hq⟩
        · obtain ⟨o', x, y⟩ := k p hp
          exact ⟨o', List.mem_cons_of_mem _ x, y⟩
  exact key l fun _ h => h
theorem St.ofNews (S : St h₀ L ns vs l b s) {nw : List (Addr × Obj)} (k : ∀ p ∈ l, ∃ o, (p.1, o) ∈ nw ∧ p.2 o) {h' : Heap} {t : Nat} (F : Fr h₀ L h' (fm ns vs)) (N : News h₀ L h' nw) : St h₀ L ns vs l b { s with heap := h', toks := t } :=
  ⟨F, ⟨fun p hp => let ⟨o, x, y⟩ := k p hp; ⟨⟨o, (N _ x).1, y⟩, (S.N.1 p hp).2⟩, S.N.2⟩, S.len, S.low, S.g, S.d, S.o⟩

/-- sorted(list of ints) -/
theorem s_sorted {xs : List Value} {zs : List Int} {Q : Value → Shared → Prop} (S : St h₀ L ns vs l b s) (hl : s.heap.IsList a xs.toArray) (hi : IntsAre xs zs) (hz : xs.length < 64)
    (h : ∀ D us ys s', St h₀ L ns vs ((D, APL us) :: l) b s' → IntsAre us ys → ys.Perm zs → ys.Pairwise (· ≤ ·) → Q (.ref D) s') : wpAny (model PG w) A (call (.builtin "sorted") [.ref a]) Q E s := by
  refine sorted_ints hl hi hz fun out ys h1 h2 h3 => ?_
  obtain ⟨e, he⟩ := sortedAll_at s.heap xs out
  refine h _ out.toList ys _ ?_ h1 h2 h3
  refine S.adopt (s' := { s with heap := sortedAll s.heap xs out }) (fun _ _ => sortedAll_old) rfl rfl rfl ?_ he ⟨e, rfl⟩ (Nat.ne_of_lt (Nat.lt_succ_of_lt S.lowS))
  cases hq : s.heap.get? (s.heap.objs.size + 1) with
  | none => rfl
  | some o => exact absurd (Nat.lt_of_succ_lt (Heap.lt_size hq)) (Nat.lt_irrefl _)
/-- sorted(dict of ints) -/
theorem s_sortedD {m : MP} {Q : Value → Shared → Prop} (S : St h₀ L ns vs l b s) (hh : A.handled = none) (i : Nat) (hi : l[i]? = some (a, AIM w m)) (hz : m.length < 64)
    (h : ∀ D us ys s', St h₀ L ns vs ((D, APL us) :: l) b s' → IntsAre us ys → ys.Perm (m.map (·.1)) → ys.Pairwise (· ≤ ·) → (m.map (·.1)).Nodup → Q (.ref D) s') : wpAny (model PG w) A (call (.builtin "sorted") [.ref a]) Q E s := by
  obtain ⟨kvs, hd, hv, hn, _⟩ := S.dictI hi
  obtain ⟨ep, hat⟩ := hd.dictAt
  have hkm : kvs.map (·.1) = m.map (·.1) := hv.keysM
  refine Calls.call_function_entry kind_sorted plain_sorted entry_sorted (args_sorted1 _) ?_
  unfold Builtin.«sorted»
  refine wpAny_bind (m := checkCount "sorted" 1 1 _) (wpAny_pure ?_)
  refine wpAny_bind (kdu_collect (A := A.in1) (kdl_dict (knd := IK w) (kvs := kvs) (ep := ep) (S.lo hi)) hh hat (by rw [hv.length, sizeLine_eq]; omega) fun h' tk acc hk hacc => ?_)
  have hvals : IntsAre acc.toList (m.map (·.1)) := by
    rw [← hkm]
    obtain ⟨h1, h2⟩ := hacc
    have h3 : acc.toList.length = kvs.length := by rw [Array.length_toList]; exact h1
    have h4 : ∀ (j : Nat) (v : Value), acc.toList[j]? = some v → ∃ k x, kvs[j]? = some (k, x) ∧ (IK w).is k v = true := fun j v e => h2 j v (by rw [← Array.getElem?_toList]; exact e)
    exact ints_of_kvs h3 h4
  have hsz : acc.toList.length < 64 := by rw [IntsAre.length hvals, List.length_map]; exact hz
  refine wpAny_bind (wpAny_newList ?_)
  have hoL : (h'.push (seqObj "list" acc.toList.toArray 0)).get? h'.objs.size = some (seqObj "list" acc.toList.toArray 0) := Heap.get?_push_size _ rfl
  show wpAny _ _ _ _ _ { s with heap := h'.push (seqObj "list" acc.toList.toArray 0), toks := tk }
  refine wpAny_bind (wpAny_holding (wpAny_call_entry slot_list_sort ⟨_, hoL, rfl⟩ entry_list_sort (list_sort_tree hoL hvals hsz fun out ys a1 a2 a3 => ⟨_, rfl, ?_⟩) (args_list_sort _)))
  refine wpAny_pure ⟨_, rfl, ?_⟩
  obtain ⟨e, he⟩ := sortedHeap_at (h := h'.push (seqObj "list" acc.toList.toArray 0)) (out := out) hoL
  refine h _ out.toList ys _ ?_ a1 a2 a3 (by rw [← hkm]; exact hn)
  have hold : ∀ c o, s.heap.get? c = some o → (sortedHeap (h'.push (seqObj "list" acc.toList.toArray 0)) h'.objs.size acc.toList out).get? c = some o := by
    intro c o e1
    have e2 := hk c o e1
    have hlt := Heap.lt_size e2
    rw [sortedHeap_old (Nat.ne_of_lt hlt) (by rw [size_push']; exact Nat.lt_succ_of_lt hlt), Heap.get?_push_ne _ _ _ (Nat.ne_of_lt hlt)]
    exact e2
  have hbig : sysModules < h'.objs.size := by
    obtain ⟨o, e1⟩ := S.L_get
    exact Nat.lt_trans (Nat.lt_of_lt_of_le S.low S.F.above) (Heap.lt_size (hk _ _ e1))
  refine S.adopt (s' := { s with heap := sortedHeap (h'.push (seqObj "list" acc.toList.toArray 0)) h'.objs.size acc.toList out, toks := tk }) hold rfl rfl rfl ?_ he ⟨e, rfl⟩ (Nat.ne_of_lt hbig)
  cases hq : s.heap.get? h'.objs.size with
  | none => rfl
  | some o => exact absurd (Heap.lt_size (hk _ _ hq)) (Nat.lt_irrefl _)
/-- max(list of ints) -/
theorem s_max {xs : List Value} {zs : List Int} {Q : Value → Shared → Prop} (S : St h₀ L ns vs l b s) (hh : A.handled = none) (hl : s.heap.IsList a xs.toArray) (hi : IntsAre xs zs) (hne : 0 < zs.length)
    (h : ∀ M t s', St h₀ L ns vs l b s' → M ∈ zs → (∀ x ∈ zs, x ≤ M) → Q (.int M t) s') : wpAny (model PG w) A (call (.builtin "max") [.ref a]) Q E s := by
  obtain ⟨nw, N, k⟩ := S.newsAll
  exact max_list_N hh S.F N hl hi hne fun h' M t tk F' N' h1 h2 => h M t _ (S.ofNews k F' N') h1 h2
/-- two lists of ints together -/
theorem s_addL {xs ys : List Value} {Q : Value → Shared → Prop} (S : St h₀ L ns vs l b s) (hl : s.heap.IsList a xs.toArray) (hl' : s.heap.IsList c ys.toArray) (hz : xs.length + ys.length ≤ 1000)
    (h : ∀ D s', St h₀ L ns vs ((D, APL (xs ++ ys)) :: l) b s' → Q (.ref D) s') : wpAny (model PG w) A (binaryOp .Add (.ref a) (.ref c)) Q E s := by
  obtain ⟨nw, N, k⟩ := S.newsAll
  refine add_lists S.F N hl hl' (fun h' F' N' => h _ _ ?_) (by rw [sizeLine_eq]; omega)
  have S' := S.ofNews (h' := h') (t := s.toks) k F' (fun p hp => N' p (List.mem_cons_of_mem _ hp))
  have hD := N' _ List.mem_cons_self
  exact S'.add hD.1 ⟨0, rfl⟩ hD.2.2 hD.2.1 (beq_eq_false_iff_ne.mpr (Nat.ne_of_gt S.lowS)) S.notin
end
end Mine
end

section
set_option linter.unusedVariables false
namespace Mine

/-- sums that coins pay -/
inductive Pay (cs : List Int) : Int → Prop
  | zero : Pay cs 0
  | step {d c : Int} : Pay cs d → c ∈ cs → Pay cs (d + c)

theorem Pay.mono {cs cs' : List Int} (hs : ∀ c ∈ cs, c ∈ cs') {d : Int} (h : Pay cs d) : Pay cs' d := by
  induction h with
  | zero => exact .zero
  | step _ hm ih => exact .step ih (hs _ hm)
theorem Pay.add {cs : List Int} {a b : Int} (ha : Pay cs a) (hb : Pay cs b) : Pay cs (a + b) := by
  induction hb with
  | zero => simpa using ha
  | step _ hm ih => rw [← Int.add_assoc]; exact .step ih hm
theorem Pay.mul {cs : List Int} {a : Int} (ha : Pay cs a) (n : Nat) : Pay cs ((n : Int) * a) := by
  induction n with
  | zero => simpa using Pay.zero
  | succ n ih => rw [show ((n + 1 : Nat) : Int) * a = n * a + a by rw [Int.natCast_add]; simp [Int.add_mul]]; exact ih.add ha
theorem Pay.one {cs : List Int} {c : Int} (h : c ∈ cs) : Pay cs c := by have := Pay.step Pay.zero h; simpa using this
theorem Pay.pos {cs : List Int} (hc : ∀ c ∈ cs, 0 ≤ c) {d : Int} (h : Pay cs d) : 0 ≤ d := by
  induction h with
  | zero => omega
  | step _ hm ih => have := hc _ hm; omega
theorem Pay.last {cs : List Int} {d : Int} (h : Pay cs d) : d = 0 ∨ ∃ c ∈ cs, Pay cs (d - c) := by
  cases h with
  | zero => exact .inl rfl
  | step h hm => exact .inr ⟨_, hm, by rwa [Int.add_sub_cancel]⟩

/-- what the graph shows of the coins -/
structure EG (F : Int) (cs : List Int) (adj : Int → List (Int × Int)) : Prop where
  f2 : 2 ≤ F
  f9 : F ≤ 9
  c2 : ∀ c ∈ cs, 2 ≤ c ∧ c ≤ 15
  out : ∀ u, ∀ e ∈ adj u, 0 ≤ u ∧ u < F ∧ e.1 = (u + e.2) % F ∧ e.2 ∈ cs
  into : ∀ u, 0 ≤ u → u < F → ∀ c ∈ cs, ∃ c', c' ≤ c ∧ ((u + c) % F, c') ∈ adj u
  deg : ∀ u, (adj u).length ≤ 3
  nd : ∀ u, ((adj u).map (·.1)).Nodup

section
variable {F : Int} {cs : List Int} {adj : Int → List (Int × Int)}
theorem EG.gok (G : EG F cs adj) : GOK adj F 3 := by
  refine ⟨by have := G.f2; omega, fun v h0 h1 p hp => ?_, fun v _ _ => G.deg v⟩
  obtain ⟨_, _, h3, h4⟩ := G.out v p hp
  have := G.c2 _ h4
  have f2 := G.f2
  rw [h3]
  exact ⟨Int.emod_nonneg _ (by omega), Int.emod_lt_of_pos _ (by omega), by omega⟩
theorem EG.pay (G : EG F cs adj) {x d : Int} (h : Way adj x d) : Pay cs d ∧ x = d % F := by
  induction h with
  | zero => exact ⟨.zero, by simp⟩
  | step _ hm ih =>
    obtain ⟨_, _, h3, h4⟩ := G.out _ _ hm
    refine ⟨.step ih.1 h4, ?_⟩
    refine Eq.trans h3 ?_
    show (_ + _) % F = _
    rw [ih.2]
    exact (Int.emod_add_emod _ _ _)
theorem EG.way (G : EG F cs adj) {d : Int} (h : Pay cs d) : ∃ e, e ≤ d ∧ Way adj (d % F) e := by
  induction h with
  | zero => exact ⟨0, by omega, by simpa using Way.zero⟩
  | @step d c _ hm ih =>
    obtain ⟨e, he, hw⟩ := ih
    have f2 := G.f2
    obtain ⟨c', hc, hm'⟩ := G.into (d % F) (Int.emod_nonneg _ (by omega)) (Int.emod_lt_of_pos _ (by omega)) c hm
    rw [Int.emod_add_emod] at hm'
    exact ⟨e + c', by omega, .step hw hm'⟩

/-- what the search gave -/
structure LM (adj : Int → List (Int × Int)) (dm : MP) : Prop where
  least : ∀ x d, look dm x = some d → Least adj x d
  all : ∀ x e, Way adj x e → ∃ d, look dm x = some d
variable {dm : MP}

theorem LM.facts (M : LM adj dm) (G : EG F cs adj) {x d : Int} (h : look dm x = some d) : Pay cs d ∧ x = d % F ∧ 0 ≤ d ∧ 0 ≤ x ∧ x < F := by
  have hw := (M.least x d h).1
  obtain ⟨a, b⟩ := G.pay hw
  obtain ⟨p, q, r⟩ := hw.rng G.gok
  exact ⟨a, b, r, p, q⟩
theorem payF (hp : ∀ c ∈ cs, 0 ≤ c) {t : Int} (h : Pay (cs ++ [F]) t) : ∃ d k : Nat, Pay cs d ∧ t = d + k * F := by
  induction h with
  | zero => exact ⟨0, 0, .zero, by simp⟩
  | @step d c _ hm ih =>
    obtain ⟨e, k, he, rfl⟩ := ih
    rcases List.mem_append.mp hm with hm | hm
    · have := hp _ hm
      obtain ⟨c', rfl⟩ := Int.eq_ofNat_of_zero_le this
      exact ⟨e + c', k, by rw [Int.natCast_add]; exact .step he hm, by rw [Int.natCast_add]; omega⟩
    · obtain rfl := List.mem_singleton.mp hm
      exact ⟨e, k + 1, he, by rw [Int.natCast_add]; simp [Int.add_mul]; omega⟩
theorem LM.pays (M : LM adj dm) (G : EG F cs adj) {t : Int} (ht : 0 ≤ t) : Pay (cs ++ [F]) t ↔ ∃ d, look dm (t % F) = some d ∧ d ≤ t := by
  have f2 := G.f2
  constructor
  · intro h
    obtain ⟨d, k, hd, rfl⟩ := payF (fun c hc => by have := G.c2 c hc; omega) h
    · obtain ⟨e, he, hw⟩ := G.way hd
      have e1 : ((d : Int) + k * F) % F = d % F := Int.add_mul_emod_self_right _ _ _
      rw [e1]
      obtain ⟨m, hm⟩ := M.all _ _ hw
      have := (M.least _ _ hm).2 _ hw
      have hk : 0 ≤ (k : Int) * F := Int.mul_nonneg (by omega) (by omega)
      exact ⟨m, hm, by omega⟩
  · rintro ⟨d, hd, hle⟩
    obtain ⟨hp, hx, h0, _⟩ := M.facts G hd
    have hp' : Pay (cs ++ [F]) d := hp.mono fun c hc => List.mem_append_left _ hc
    have hdvd : F ∣ (t - d) := Int.dvd_of_emod_eq_zero (Int.emod_eq_emod_iff_emod_sub_eq_zero.mp hx)
    obtain ⟨q, hq⟩ := hdvd
    have hq0 : 0 ≤ q := by
      rcases Int.lt_or_le q 0 with hneg | h
      · have := Int.mul_neg_of_pos_of_neg (show 0 < F by omega) hneg
        omega
      · exact h
    obtain ⟨n, rfl⟩ := Int.eq_ofNat_of_zero_le hq0
    have : t = d + (n : Int) * F := by rw [Int.mul_comm]; omega
    rw [this]
    exact hp'.add (Pay.mul (Pay.one (by simp)) n)

/-! the least length is at most 120 -/
/-- pays by a list of coins -/
theorem pay_list {d : Int} (h : Pay cs d) : ∃ ws : List Int, (∀ c ∈ ws, c ∈ cs) ∧ ws.sum = d := by
  induction h with
  | zero => exact ⟨[], fun _ h => (nomatch h), rfl⟩
  | @step d c _ hm ih =>
    obtain ⟨ws, h1, h2⟩ := ih
    exact ⟨c :: ws, fun x hx => by
      rcases List.mem_cons.mp hx with rfl | hx
      · exact hm
      · exact h1 _ hx, by rw [List.sum_cons, h2]; omega⟩
theorem list_pay : ∀ {ws : List Int}, (∀ c ∈ ws, c ∈ cs) → Pay cs ws.sum
  | [], _ => .zero
  | c :: ws, h => by rw [List.sum_cons, Int.add_comm]; exact .step (list_pay fun x hx => h x (List.mem_cons_of_mem _ hx)) (h c List.mem_cons_self)

theorem sum_split (ws : List Int) (i : Nat) : (ws.take i).sum + (ws.drop i).sum = ws.sum := by
  have := List.take_append_drop i ws
  conv => rhs; rw [← this]
  rw [List.sum_append_int]

theorem short (f2 : 2 ≤ F) (hc : ∀ c ∈ cs, 0 ≤ c) : ∀ (n : Nat) (ws : List Int), ws.length ≤ n → (∀ c ∈ ws, c ∈ cs) → ∃ ws' : List Int, (∀ c ∈ ws', c ∈ cs) ∧ ws'.sum % F = ws.sum % F ∧ ws'.sum ≤ ws.sum ∧ (ws'.length : Int) < F
  | 0, ws, hl, hw => ⟨ws, hw, rfl, by omega, by omega⟩
  | n + 1, ws, hl, hw => by
    by_cases hlt : (ws.length : Int) < F
    · exact ⟨ws, hw, rfl, by omega, hlt⟩
    let rs := (List.range (ws.length + 1)).map fun i => (ws.take i).sum % F
    have hrs : rs ⊆ (List.range F.toNat).map fun i : Nat => (i : Int) := by
      intro x hx
      obtain ⟨i, _, rfl⟩ := List.mem_map.mp hx
      have h0 := Int.emod_nonneg (ws.take i).sum (show F ≠ 0 by omega)
      have h1 := Int.emod_lt_of_pos (ws.take i).sum (show 0 < F by omega)
      exact List.mem_map.mpr ⟨((ws.take i).sum % F).toNat, List.mem_range.mpr (by omega), by omega⟩
    have hnd : ¬ rs.Nodup := fun q => by
      have := q.length_le_of_subset hrs
      simp only [rs, List.length_map, List.length_range] at this
      omega
    have : ∃ i j : Nat, i < j ∧ j ≤ ws.length ∧ (ws.take i).sum % F = (ws.take j).sum % F := by
      apply Classical.byContradiction
      intro hno
      refine hnd (List.pairwise_iff_getElem.mpr fun i j hi hj hij => ?_)
      simp only [rs, List.getElem_map, List.getElem_range]
      intro e
      simp only [rs, List.length_map, List.length_range] at hj
      exact hno ⟨i, j, hij, by omega, e⟩
    obtain ⟨i, j, hij, hj, e⟩ := this
    have hsub : ∀ c ∈ ws.take i ++ ws.drop j, c ∈ cs := fun c hc => by
      rcases List.mem_append.mp hc with h | h
      · exact hw c (List.mem_of_mem_take h)
      · exact hw c (List.mem_of_mem_drop h)
    obtain ⟨ws', h1, h2, h3, h4⟩ := short f2 hc n (ws.take i ++ ws.drop j) (by simp; omega) hsub
    have s1 := sum_split ws j
    have s2 : (ws.take i ++ ws.drop j).sum = (ws.take i).sum + (ws.drop j).sum := List.sum_append_int
    have s3 : (ws.take i).sum ≤ (ws.take j).sum := by
      have := sum_split (ws.take j) i
      rw [List.take_take, Nat.min_eq_left (by omega)] at this
      have hp : 0 ≤ ((ws.take j).drop i).sum := Pay.pos hc (list_pay fun c hc => hw c (List.mem_of_mem_take (List.mem_of_mem_drop hc)))
      omega
    refine ⟨ws', h1, ?_, by omega, h4⟩
    rw [h2, s2, ← s1, Int.add_emod, e, ← Int.add_emod]

theorem sum_bound : ∀ {ws : List Int} {m : Int}, (∀ c ∈ ws, c ≤ m) → ws.sum ≤ ws.length * m
  | [], m, _ => by simp
  | c :: ws, m, h => by
    have := sum_bound (ws := ws) (m := m) fun x hx => h x (List.mem_cons_of_mem _ hx)
    have h2 := h c List.mem_cons_self
    rw [List.sum_cons, List.length_cons, Int.natCast_add, Int.add_mul]
    omega
theorem LM.bound (M : LM adj dm) (G : EG F cs adj) {x d : Int} (h : look dm x = some d) : d ≤ 120 := by
  have f2 := G.f2
  have f9 := G.f9
  obtain ⟨hp, hx, _⟩ := M.facts G h
  obtain ⟨ws, h1, h2⟩ := pay_list hp
  obtain ⟨ws', h3, h4, h5, h6⟩ := short f2 (fun c hc => by have := G.c2 c hc; omega) _ ws (Nat.le_refl _) h1
  have hb := sum_bound (ws := ws') (m := 15) fun c hc => (G.c2 c (h3 c hc)).2
  obtain ⟨e, he, hw⟩ := G.way (list_pay h3)
  rw [h4, h2, ← hx] at hw
  have := (M.least _ _ h).2 _ hw
  omega

/-! what is reached -/
theorem sub_gcd {S : Int → Prop} (add : ∀ a b, S a → S b → S (a + b)) (mul : ∀ k a : Int, S a → S (k * a)) : ∀ a b : Nat, S a → S b → S (Nat.gcd a b : Nat) := by
  intro a b
  induction a, b using Nat.gcd.induction with
  | H0 n => intro _ hb; rwa [Nat.gcd_zero_left]
  | H1 m n hm ih =>
    intro ha hb
    rw [Nat.gcd_rec]
    refine ih ?_ ha
    have : ((n % m : Nat) : Int) = n + (-(n / m : Int)) * m := by
      rw [Int.natCast_emod, Int.emod_def, Int.neg_mul, Int.mul_comm]; omega
    rw [this]
    exact add _ _ hb (mul _ _ ha)
def gcds (F : Int) (cs : List Int) : Int := cs.foldl (fun g c => (Int.gcd g c : Int)) F
theorem gcds_dvd (F : Int) (cs : List Int) : gcds F cs ∣ F ∧ ∀ c ∈ cs, gcds F cs ∣ c := by
  induction cs generalizing F with
  | nil => exact ⟨Int.dvd_refl _, fun _ h => (nomatch h)⟩
  | cons c cs ih =>
    obtain ⟨h1, h2⟩ := ih (Int.gcd F c : Int)
    refine ⟨Int.dvd_trans h1 (Int.gcd_dvd_left ..), fun x hx => ?_⟩
    rcases List.mem_cons.mp hx with rfl | hx
    · exact Int.dvd_trans h1 (Int.gcd_dvd_right ..)
    · exact h2 x hx
theorem gcds_in {S : Int → Prop} (add : ∀ a b, S a → S b → S (a + b)) (mul : ∀ k a : Int, S a → S (k * a)) (F : Int) (cs : List Int) (h0 : 0 ≤ F) (hF : S F) (hc : ∀ c ∈ cs, 0 ≤ c ∧ S c) : S (gcds F cs) := by
  induction cs generalizing F with
  | nil => exact hF
  | cons c cs ih =>
    refine ih _ (Int.natCast_nonneg _) ?_ fun x hx => hc x (List.mem_cons_of_mem _ hx)
    obtain ⟨hc0, hcS⟩ := hc c List.mem_cons_self
    obtain ⟨a, rfl⟩ := Int.eq_ofNat_of_zero_le h0
    obtain ⟨b, rfl⟩ := Int.eq_ofNat_of_zero_le hc0
    exact sub_gcd add mul a b hF hcS
theorem gcds_pos (F : Int) (cs : List Int) (h : 0 < F) : 0 < gcds F cs := by
  induction cs generalizing F with
  | nil => exact h
  | cons c cs ih =>
    refine ih _ ?_
    show 0 < ((Int.gcd F c : Nat) : Int)
    have : 0 < Int.gcd F c := Nat.pos_of_ne_zero fun e => by have := (Int.gcd_eq_zero_iff.mp e).1; omega
    omega
theorem pay_dvd {g : Int} (hc : ∀ c ∈ cs, g ∣ c) {d : Int} (h : Pay cs d) : g ∣ d := by
  induction h with
  | zero => exact Int.dvd_zero _
  | step _ hm ih => exact Int.dvd_add ih (hc _ hm)
theorem pay_all (f2 : 2 ≤ F) (hc : ∀ c ∈ cs, 0 ≤ c) {z : Int} (h : gcds F cs ∣ z) : ∃ d, Pay cs d ∧ d % F = z % F := by
  let S : Int → Prop := fun z => ∃ d, Pay cs d ∧ d % F = z % F
  have add : ∀ a b, S a → S b → S (a + b) := by
    rintro a b ⟨d, h1, h2⟩ ⟨e, h3, h4⟩
    exact ⟨d + e, h1.add h3, by rw [Int.add_emod, h2, h4, ← Int.add_emod]⟩
  have mul : ∀ k a : Int, S a → S (k * a) := by
    rintro k a ⟨d, h1, h2⟩
    refine ⟨((k % F).toNat : Int) * d, h1.mul _, ?_⟩
    rw [Int.toNat_of_nonneg (Int.emod_nonneg _ (by omega)), Int.mul_emod, h2, Int.emod_emod, ← Int.mul_emod]
  have hg : S (gcds F cs) := gcds_in add mul F cs (by omega) ⟨0, .zero, by simp⟩ fun c hm => ⟨hc c hm, ⟨c, .one hm, rfl⟩⟩
  obtain ⟨q, rfl⟩ := h
  have := mul q _ hg
  rwa [Int.mul_comm]
/-- reached just where the common divisor divides -/
theorem LM.reach (M : LM adj dm) (G : EG F cs adj) {x : Int} : (look dm x).isSome = true ↔ 0 ≤ x ∧ x < F ∧ x % gcds F cs = 0 := by
  have f2 := G.f2
  have hgd := gcds_dvd F cs
  constructor
  · intro h
    obtain ⟨d, hd⟩ := Option.isSome_iff_exists.mp h
    obtain ⟨hp, hx, _, h0, h1⟩ := M.facts G hd
    refine ⟨h0, h1, ?_⟩
    rw [hx, Int.emod_emod_of_dvd _ hgd.1]
    exact Int.emod_eq_zero_of_dvd (pay_dvd hgd.2 hp)
  · rintro ⟨h0, h1, h2⟩
    obtain ⟨d, hp, hd⟩ := pay_all f2 (fun c hc => by have := G.c2 c hc; omega) (Int.dvd_of_emod_eq_zero h2)
    obtain ⟨e, he, hw⟩ := G.way hp
    rw [hd, Int.emod_eq_of_lt h0 h1] at hw
    obtain ⟨m, hm⟩ := M.all _ _ hw
    rw [hm]; rfl
end
end Mine
end

section
set_option linter.unusedVariables false
namespace Mine

/-- the ints of a range -/
def rl (a c : Int) (n : Nat) : List Int := (List.range n).map fun i : Nat => a + (i : Int) * c
/-- the table of paid sums -/
def Tab (cs : List Int) (bs : List Bool) : Prop := ∀ (t : Nat) b, bs[t]? = some b → (b = true ↔ Pay cs t)

theorem Tab.zero (cs : List Int) : Tab cs [true] := by
  intro t b h
  cases t with
  | zero => simp at h; subst h; exact ⟨fun _ => .zero, fun _ => rfl⟩
  | succ t => simp at h
/-- a coin that pays the last step to t -/
def pays (bs : List Bool) (t : Nat) (c : Int) : Bool := decide (c ≤ t) && bs.getD (t - c).toNat false
theorem Tab.snoc {cs : List Int} {bs : List Bool} (T : Tab cs bs) (hc : ∀ c ∈ cs, 2 ≤ c) (h1 : bs ≠ []) : Tab cs (bs ++ [cs.any (pays bs bs.length)]) := by
  intro t b h
  rw [List.getElem?_append] at h
  split at h
  · exact T t b h
  rename_i hlt
  have ht : t = bs.length := by
    have := (List.getElem?_eq_some_iff.mp h).1
    simp at this; omega
  subst ht
  simp at h
  subst h
  have hpos : 0 < bs.length := List.length_pos_iff.mpr h1
  rw [List.any_eq_true]
  constructor
  · rintro ⟨c, hm, hp⟩
    simp only [pays, Bool.and_eq_true, decide_eq_true_eq] at hp
    have := hc c hm
    have hg : bs[((bs.length : Int) - c).toNat]? = some true := by
      rw [List.getD_eq_getElem?_getD] at hp
      have hl : ((bs.length : Int) - c).toNat < bs.length := by omega
      rw [List.getElem?_eq_getElem hl] at hp ⊢
      simpa using hp.2
    have := (T _ _ hg).mp rfl
    have := Pay.step this hm
    rwa [show ((((bs.length : Int) - c).toNat : Int)) + c = bs.length by omega] at this
  · intro h
    rcases h.last with h0 | ⟨c, hm, hp⟩
    · omega
    have h2 := hc c hm
    have h3 := Pay.pos (fun c hm => by have := hc c hm; omega) hp
    refine ⟨c, hm, ?_⟩
    have hl : ((bs.length : Int) - c).toNat < bs.length := by omega
    simp only [pays, Bool.and_eq_true, decide_eq_true_eq]
    refine ⟨by omega, ?_⟩
    rw [List.getD_eq_getElem?_getD, List.getElem?_eq_getElem hl]
    simp only [Option.getD_some]
    refine (T _ _ (List.getElem?_eq_getElem hl)).mpr ?_
    rwa [show ((((bs.length : Int) - c).toNat : Int)) = bs.length - c by omega]

theorem range_ge (q : Nat) : ∀ n, (List.range n).filter (fun i => decide (q ≤ i)) = (List.range (n - q)).map (q + ·)
  | 0 => by simp
  | n + 1 => by
    rw [List.range_succ, List.filter_append, range_ge q n]
    by_cases h : q ≤ n
    · rw [show n + 1 - q = (n - q) + 1 by omega, List.range_succ, List.map_append]
      simp [h]
    · rw [show n + 1 - q = n - q by omega]
      simp [h]
theorem sums_eq {F r m : Int} (f2 : 2 ≤ F) (hr0 : 0 ≤ r) (hr : r < F) (hm : m % F = r) (h0 : 0 ≤ m) (h1 : m ≤ 160) :
    (rl r F ((160 - r) / F + 1).toNat).filter (fun t => decide (m ≤ t)) = rl m F ((160 - m) / F + 1).toNat := by
  obtain ⟨q, hq⟩ : ∃ q : Nat, m = r + q * F := by
    refine ⟨(m / F).toNat, ?_⟩
    rw [Int.toNat_of_nonneg (Int.ediv_nonneg h0 (by omega)), Int.mul_comm, ← hm]
    have := Int.emod_add_mul_ediv m F
    omega
  unfold rl
  rw [List.filter_map]
  have e : (List.range ((160 - r) / F + 1).toNat).filter ((fun t => decide (m ≤ t)) ∘ fun i : Nat => r + (i : Int) * F) = (List.range ((160 - r) / F + 1).toNat).filter fun i => decide (q ≤ i) := by
    congr 1
    funext i
    simp only [Function.comp, hq]
    congr 1
    rw [eq_iff_iff]
    constructor
    · intro h
      have : (q : Int) * F ≤ i * F := by omega
      have := Int.le_of_mul_le_mul_right this (by omega)
      omega
    · intro h
      have := Int.mul_le_mul_of_nonneg_right (show (q : Int) ≤ i by omega) (show 0 ≤ F by omega)
      omega
  rw [e, range_ge, List.map_map]
  have en : ((160 - r) / F + 1).toNat - q = ((160 - m) / F + 1).toNat := by
    have e1 : (160 - m) / F = (160 - r) / F - q := by
      rw [hq, show 160 - (r + (q : Int) * F) = (160 - r) + F * (-(q : Int)) by rw [Int.mul_neg, Int.mul_comm]; omega, Int.add_mul_ediv_left _ _ (by omega)]
      omega
    have h2 : 0 ≤ (160 - m) / F := Int.ediv_nonneg (by omega) (by omega)
    omega
  rw [en]
  apply List.map_congr_left
  intro i _
  simp only [Function.comp, hq]
  rw [Int.natCast_add, Int.add_mul]
  omega
theorem sums_nil {F r m : Int} (h0 : 0 ≤ m) (h1 : m ≤ 160) (f2 : 2 ≤ F) : rl m F ((160 - m) / F + 1).toNat ≠ [] := by
  have h2 : 0 ≤ (160 - m) / F := Int.ediv_nonneg (by omega) (by omega)
  intro h
  have := congrArg List.length h
  simp only [rl, List.length_map, List.length_range, List.length_nil] at this
  omega

/-! the gaps -/
theorem sum_one (a : Nat → Nat) (k e : Nat) : ∀ n, ((List.range n).map fun r => a r + if r = k then e else 0).sum = ((List.range n).map a).sum + if k < n then e else 0
  | 0 => by simp
  | n + 1 => by
    rw [List.range_succ, List.map_append, List.map_append, List.sum_append_nat, List.sum_append_nat, sum_one a k e n]
    simp only [List.map_cons, List.map_nil, List.sum_cons, List.sum_nil]
    by_cases h : k < n
    · rw [if_pos h, if_neg (by omega), if_pos (by omega)]; omega
    · by_cases h2 : n = k
      · rw [if_neg h, if_pos h2, if_pos (by omega)]; omega
      · rw [if_neg h, if_neg h2, if_neg (by omega)]; omega
def gp (f : Nat) (m : Nat → Nat) (N r : Nat) : Nat := if N ≤ m r then (N + f - 1 - r) / f else m r / f
theorem gp_step {f : Nat} {m : Nat → Nat} (f2 : 2 ≤ f) (f9 : f ≤ 9) (N r : Nat) (hr : r < f) (hm : m r % f = r) : gp f m (N + 1) r = gp f m N r + if r = N % f then (if N < m (N % f) then 1 else 0) else 0 := by
  unfold gp
  have hc : f = 2 ∨ f = 3 ∨ f = 4 ∨ f = 5 ∨ f = 6 ∨ f = 7 ∨ f = 8 ∨ f = 9 := by omega
  by_cases h : r = N % f
  · rw [if_pos h, ← h]
    rcases hc with rfl | rfl | rfl | rfl | rfl | rfl | rfl | rfl <;> repeat' split
    all_goals omega
  · rw [if_neg h]
    rcases hc with rfl | rfl | rfl | rfl | rfl | rfl | rfl | rfl <;> repeat' split
    all_goals omega
theorem zs : ∀ n, ((List.range n).map fun _ : Nat => (0 : Nat)).sum = 0
  | 0 => rfl
  | n + 1 => by rw [List.range_succ, List.map_append, List.sum_append_nat, zs n]; rfl
theorem gp_count {f : Nat} {m : Nat → Nat} (f2 : 2 ≤ f) (f9 : f ≤ 9) (hm : ∀ r, r < f → m r % f = r) : ∀ N, ((List.range N).filter fun t => decide (t < m (t % f))).length = ((List.range f).map (gp f m N)).sum
  | 0 => by
    have : (List.range f).map (gp f m 0) = (List.range f).map fun _ => 0 := by
      apply List.map_congr_left
      intro r hr
      have := List.mem_range.mp hr
      unfold gp
      rw [if_pos (Nat.zero_le _)]
      exact Nat.div_eq_of_lt (by omega)
    rw [this, zs]
    simp
  | N + 1 => by
    have : (List.range f).map (gp f m (N + 1)) = (List.range f).map fun r => gp f m N r + if r = N % f then (if N < m (N % f) then 1 else 0) else 0 := by
      apply List.map_congr_left
      intro r hr
      have hr := List.mem_range.mp hr
      exact gp_step f2 f9 N r hr (hm r hr)
    rw [this, sum_one, if_pos (Nat.mod_lt _ (by omega)), ← gp_count f2 f9 hm N, List.range_succ, List.filter_append, List.length_append]
    by_cases h : N < m (N % f) <;> simp [h]
theorem filter_last {p : Nat → Bool} {t0 : Nat} (h0 : p t0 = true) : ∀ N, t0 < N → (∀ t, t0 < t → t < N → p t = false) → (List.range N).filter p = (List.range t0).filter p ++ [t0]
  | 0, h, _ => by omega
  | N + 1, h, hn => by
    rw [List.range_succ, List.filter_append]
    by_cases e : t0 = N
    · subst e; simp [h0]
    · rw [filter_last h0 N (by omega) fun t a b => hn t a (by omega)]
      simp [hn N (by omega) (by omega)]
theorem max_at (m : Nat → Nat) : ∀ n, 0 < n → ∃ r, r < n ∧ ∀ s, s < n → m s ≤ m r
  | 0, h => by omega
  | 1, _ => ⟨0, by omega, fun s hs => by rw [show s = 0 by omega]; exact Nat.le_refl _⟩
  | n + 2, _ => by
    obtain ⟨r, hr, h⟩ := max_at m (n + 1) (by omega)
    by_cases e : m r ≤ m (n + 1)
    · exact ⟨n + 1, by omega, fun s hs => by
        by_cases q : s = n + 1
        · rw [q]; exact Nat.le_refl _
        · exact Nat.le_trans (h s (by omega)) e⟩
    · exact ⟨r, by omega, fun s hs => by
        by_cases q : s = n + 1
        · rw [q]; omega
        · exact h s (by omega)⟩

def gapsOf (bs : List Bool) : List Int := (rl 0 1 161).filter fun t => !bs.getD t.toNat false

theorem gaps_law {F : Int} {cs : List Int} {adj : Int → List (Int × Int)} {dm : MP} {bs : List Bool} {m : Int → Int} (G : EG F cs adj) (M : LM adj dm) (hb : bs.length = 161) (T : Tab (cs ++ [F]) bs) (hm : ∀ r, 0 ≤ r → r < F → look dm r = some (m r)) :
    ∃ pre last, gapsOf bs = pre ++ [last] ∧ ((gapsOf bs).length : Int) = ((rl 0 1 F.toNat).map fun r => m r / F).sum ∧ (∀ r, 0 ≤ r → r < F → m r ≤ last + F) ∧ ∃ r, 0 ≤ r ∧ r < F ∧ m r = last + F := by
  have f2 := G.f2
  have f9 := G.f9
  obtain ⟨f, rfl⟩ := Int.eq_ofNat_of_zero_le (show 0 ≤ F by omega)
  have hfacts : ∀ r : Nat, r < f → 0 ≤ m r ∧ m r ≤ 120 ∧ m r % f = r := fun r hr => by
    have hl := hm r (by omega) (by omega)
    obtain ⟨_, b, c, _⟩ := M.facts G hl
    exact ⟨c, M.bound G hl, b.symm⟩
  let mn : Nat → Nat := fun r => (m r).toNat
  have hmn : ∀ r, r < f → (mn r : Int) = m r := fun r hr => Int.toNat_of_nonneg (hfacts r hr).1
  have hmod : ∀ r, r < f → mn r % f = r := fun r hr => by
    have := (hfacts r hr).2.2
    rw [← hmn r hr] at this
    omega
  have hp : ∀ t, t < 161 → (!bs.getD t false) = decide (t < mn (t % f)) := fun t ht => by
    have hlt : t % f < f := Nat.mod_lt _ (by omega)
    rw [List.getD_eq_getElem?_getD, List.getElem?_eq_getElem (by omega), Option.getD_some]
    have h1 := T t _ (List.getElem?_eq_getElem (by omega))
    rw [M.pays G (by omega)] at h1
    have h2 := hm ((t % f : Nat) : Int) (by omega) (by omega)
    rw [Int.natCast_emod] at h2
    rw [h2] at h1
    have h3 := hmn _ hlt
    rw [Int.natCast_emod] at h3
    by_cases q : t < mn (t % f)
    · have : bs[t] = false := by
        rw [← Bool.not_eq_true, h1]
        rintro ⟨d, e, hd⟩
        cases e
        omega
      rw [this]; simp [q]
    · have : bs[t] = true := h1.mpr ⟨_, rfl, by omega⟩
      rw [this]; simp [q]
  have hg : gapsOf bs = ((List.range 161).filter fun t => decide (t < mn (t % f))).map fun i : Nat => (i : Int) := by
    unfold gapsOf rl
    rw [List.filter_map]
    have : (fun i : Nat => (0 : Int) + (i : Int) * 1) = fun i : Nat => (i : Int) := by funext i; omega
    rw [this]
    congr 1
    apply List.filter_congr
    intro t ht
    have := hp t (List.mem_range.mp ht)
    simpa [Function.comp] using this
  obtain ⟨r0, hr0, hmax⟩ := max_at mn f (by omega)
  have hb0 := hfacts r0 hr0
  have h00 := hmn r0 hr0
  -- the greatest is past F
  have hbig : f ≤ mn r0 := by
    apply Classical.byContradiction
    intro hlt
    have h1 : mn 1 % f = 1 := hmod 1 (by omega)
    have h2 := hmax 1 (by omega)
    have h3 : mn 1 = 1 := by rw [Nat.mod_eq_of_lt (by omega)] at h1; exact h1
    have hl := hm 1 (by omega) (by omega)
    obtain ⟨a, _, _, _⟩ := M.facts G hl
    have h4 := hmn 1 (by omega)
    rw [show m 1 = 1 by have : m ((1 : Nat) : Int) = m 1 := rfl; omega] at a
    rcases a.last with q | ⟨c, hc, q⟩
    · omega
    · have := G.c2 c hc
      have := Pay.pos (fun c hc => by have := G.c2 c hc; omega) q
      omega
  have hlast := filter_last (p := fun t => decide (t < mn (t % f))) (t0 := mn r0 - f) (by
    have : (mn r0 - f) % f = r0 := by
      have := hmod r0 hr0
      rw [← Nat.mod_eq_sub_mod hbig]; exact this
    rw [this]; simp; omega) 161 (by omega) (by
    intro t h1 h2
    simp only [decide_eq_false_iff_not]
    intro h3
    have h4 := hmax (t % f) (Nat.mod_lt _ (by omega))
    have h5 := hmod (t % f) (Nat.mod_lt _ (by omega))
    have h6 : (mn (t % f) - t) % f = 0 := by
      have := (Nat.sub_mod_eq_zero_of_mod_eq h5)
      exact this
    have h7 : f ≤ mn (t % f) - t := Nat.le_of_dvd (by omega) (Nat.dvd_of_mod_eq_zero h6)
    omega)
  refine ⟨((List.range (mn r0 - f)).filter fun t => decide (t < mn (t % f))).map fun i : Nat => (i : Int), ((mn r0 - f : Nat) : Int), ?_, ?_, ?_, ?_⟩
  · rw [hg, hlast, List.map_append]; rfl
  · rw [hg, List.length_map, gp_count (by omega) (by omega) hmod]
    have : ∀ n, n ≤ f → (((List.range n).map (gp f mn 161)).sum : Int) = ((rl 0 1 n).map fun r => m r / f).sum := by
      intro n
      induction n with
      | zero => intro _; simp [rl]
      | succ n ih =>
        intro hn
        have h1 := ih (by omega)
        rw [List.range_succ, List.map_append, List.sum_append_nat]
        have : rl 0 1 (n + 1) = rl 0 1 n ++ [(n : Int)] := by unfold rl; rw [List.range_succ, List.map_append]; simp
        rw [this, List.map_append, List.sum_append_int, Int.natCast_add, h1]
        congr 1
        simp only [List.map_cons, List.map_nil, List.sum_cons, List.sum_nil]
        have hf := hfacts n (by omega)
        have hn := hmn n (by omega)
        unfold gp
        rw [if_neg (by omega), ← hn]
        simp
    exact this f (Nat.le_refl _)
  · intro r h0 h1
    obtain ⟨n, rfl⟩ := Int.eq_ofNat_of_zero_le h0
    have := hmax n (by omega)
    have := hmn n (by omega)
    omega
  · exact ⟨r0, by omega, by omega, by omega⟩
end Mine
end

section
set_option linter.unusedVariables false
namespace Mine

def pgetP (ps : List ((Int × Int) × Int)) (k : Int × Int) : Option Int := (ps.find? fun p => decide (p.1 = k)).map (·.2)
def addEP (adj : Int → List (Int × Int)) (u v c : Int) : Int → List (Int × Int) := fun k => if k = u then adj u ++ [(v, c)] else adj k

theorem look_append (m m' : MP) (k : Int) : look (m ++ m') k = (look m k).or (look m' k) := by
  induction m with
  | nil => rfl
  | cons p r ih =>
    show (if p.1 = k then some p.2 else look (r ++ m') k) = (if p.1 = k then some p.2 else look r k).or (look m' k)
    split
    · rfl
    · rw [ih]

/-- the edges that stand, between two coins -/
structure EO (F : Int) (done : List Int) (ps : List ((Int × Int) × Int)) (adj : Int → List (Int × Int)) : Prop where
  out : ∀ u, ∀ e ∈ adj u, 0 ≤ u ∧ u < F ∧ e.1 = (u + e.2) % F ∧ e.2 ∈ done
  into : ∀ u, 0 ≤ u → u < F → ∀ c ∈ done, ∃ c', c' ≤ c ∧ ((u + c) % F, c') ∈ adj u
  deg : ∀ u, (adj u).length ≤ done.length
  nd : ∀ u, ((adj u).map (·.1)).Nodup
  get : ∀ u v, pgetP ps (u, v) = look (adj u) v
/-- and within a coin's turn: the rests below k are through -/
structure EI (F : Int) (done : List Int) (c : Int) (k : Nat) (ps : List ((Int × Int) × Int)) (adj : Int → List (Int × Int)) : Prop where
  out : ∀ u, ∀ e ∈ adj u, 0 ≤ u ∧ u < F ∧ e.1 = (u + e.2) % F ∧ (e.2 ∈ done ∨ e.2 = c)
  into : ∀ u, 0 ≤ u → u < F → ∀ c ∈ done, ∃ c', c' ≤ c ∧ ((u + c) % F, c') ∈ adj u
  cur : ∀ u : Int, 0 ≤ u → u < k → ∃ c', c' ≤ c ∧ ((u + c) % F, c') ∈ adj u
  deg : ∀ u, (adj u).length ≤ done.length + if u < k then 1 else 0
  nd : ∀ u, ((adj u).map (·.1)).Nodup
  get : ∀ u v, pgetP ps (u, v) = look (adj u) v

theorem EO.zero (F : Int) : EO F [] [] (fun _ => []) := ⟨fun _ _ h => (nomatch h), fun _ _ _ _ h => (nomatch h), fun _ => Nat.le_refl _, fun _ => List.nodup_nil, fun _ _ => rfl⟩

section
variable {F c : Int} {done : List Int} {k : Nat} {ps : List ((Int × Int) × Int)} {adj : Int → List (Int × Int)}
theorem EO.turn (h : EO F done ps adj) (c : Int) : EI F done c 0 ps adj :=
  ⟨fun u e he => let ⟨a, b, d, f⟩ := h.out u e he; ⟨a, b, d, .inl f⟩, h.into, fun u a b => by omega, fun u => Nat.le_trans (h.deg u) (Nat.le_add_right _ _), h.nd, h.get⟩
theorem EI.done_ (h : EI F done c k ps adj) (hk : F ≤ k) : EO F (done ++ [c]) ps adj := by
  refine ⟨fun u e he => ?_, fun u h0 h1 x hx => ?_, fun u => ?_, h.nd, h.get⟩
  · obtain ⟨a, b, d, f⟩ := h.out u e he
    exact ⟨a, b, d, by simpa using f⟩
  · rcases List.mem_append.mp hx with hx | hx
    · exact h.into u h0 h1 x hx
    · obtain rfl := List.mem_singleton.mp hx
      exact h.cur u h0 (by omega)
  · have := h.deg u
    rw [List.length_append]
    split at this <;> simp <;> omega
theorem EI.old (h : EI F done c k ps adj) (hs : ∀ x ∈ done, x ≤ c) {x : Int} (hl : pgetP ps ((k : Int), ((k : Int) + c) % F) = some x) : EI F done c (k + 1) ps adj := by
  refine ⟨h.out, h.into, fun u h0 h1 => ?_, fun u => ?_, h.nd, h.get⟩
  · by_cases e : u = k
    · subst e
      rw [h.get] at hl
      have hm := look_some_mem hl
      obtain ⟨_, _, _, f⟩ := h.out _ _ hm
      refine ⟨x, ?_, hm⟩
      rcases f with f | f
      · exact hs _ f
      · exact Int.le_of_eq f
    · exact h.cur u h0 (by omega)
  · have := h.deg u
    split at this
    · rw [if_pos (by omega)]; exact this
    · omega
theorem EI.new (h : EI F done c k ps adj) (hk : (k : Int) < F) (hl : pgetP ps ((k : Int), ((k : Int) + c) % F) = none) : EI F done c (k + 1) (ps ++ [(((k : Int), ((k : Int) + c) % F), c)]) (addEP adj k (((k : Int) + c) % F) c) := by
  have hsub : ∀ u e, e ∈ adj u → e ∈ addEP adj k (((k : Int) + c) % F) c u := fun u e he => by
    unfold addEP
    split
    · rename_i q; subst q; exact List.mem_append_left _ he
    · exact he
  have hnew : (((k : Int) + c) % F, c) ∈ addEP adj k (((k : Int) + c) % F) c k := by unfold addEP; rw [if_pos rfl]; simp
  rw [h.get] at hl
  refine ⟨fun u e he => ?_, fun u h0 h1 x hx => ?_, fun u h0 h1 => ?_, fun u => ?_, fun u => ?_, fun u v => ?_⟩
  · unfold addEP at he
    split at he
    · rename_i q; subst q
      rcases List.mem_append.mp he with he | he
      · exact h.out _ _ he
      · obtain rfl := List.mem_singleton.mp he
        exact ⟨by omega, hk, rfl, .inr rfl⟩
    · exact h.out _ _ he
  · obtain ⟨c', a, b⟩ := h.into u h0 h1 x hx
    exact ⟨c', a, hsub _ _ b⟩
  · by_cases e : u = k
    · subst e; exact ⟨c, Int.le_refl _, hnew⟩
    · obtain ⟨c', a, b⟩ := h.cur u h0 (by omega)
      exact ⟨c', a, hsub _ _ b⟩
  · unfold addEP
    have := h.deg u
    split
    · rename_i q; subst q
      rw [if_neg (by omega)] at this
      rw [List.length_append, if_pos (by omega)]; simp; omega
    · split at this
      · rw [if_pos (by omega)]; exact this
      · omega
  · unfold addEP
    split
    · rename_i q; subst q
      rw [List.map_append]
      refine List.nodup_append.mpr ⟨h.nd _, by simp, fun a ha b hb => ?_⟩
      simp at hb
      subst hb
      intro q
      subst q
      exact look_none.mp hl ha
    · exact h.nd u
  · unfold pgetP
    rw [List.find?_append]
    have hg := h.get u v
    unfold pgetP at hg
    unfold addEP
    by_cases q : u = k
    · subst q
      rw [if_pos rfl, look_append, ← hg]
      cases hf : ps.find? fun p => decide (p.1 = ((k : Int), v)) with
      | some p => simp
      | none =>
        by_cases hv : ((k : Int) + c) % F = v
        · subst hv; simp [look]
        · simp [look, hv]
    · rw [if_neg q, ← hg]
      cases hf : ps.find? fun p => decide (p.1 = (u, v)) with
      | some p => simp
      | none => simp [Ne.symm q]
theorem EO.eg (h : EO F done ps adj) {cs : List Int} (f2 : 2 ≤ F) (f9 : F ≤ 9) (c2 : ∀ c ∈ cs, 2 ≤ c ∧ c ≤ 15) (hz : done.length ≤ 3) (hp : ∀ c, c ∈ done ↔ c ∈ cs) : EG F cs adj :=
  ⟨f2, f9, c2, fun u e he => let ⟨a, b, d, f⟩ := h.out u e he; ⟨a, b, d, (hp _).mp f⟩, fun u h0 h1 c hc => h.into u h0 h1 c ((hp _).mpr hc), fun u => Nat.le_trans (h.deg u) hz, h.nd⟩

/-- a step of the told way -/
def stp (ps : List ((Int × Int) × Int)) (ys : List Int) (k : Nat) : Int := (pgetP ps (ys.getD k 0, ys.getD (k + 1) 0)).getD 0
def stps (ps : List ((Int × Int) × Int)) (ys : List Int) : Nat → Int
  | 0 => 0
  | n + 1 => stps ps ys n + stp ps ys n
theorem stps_snoc (ps : List ((Int × Int) × Int)) (ys : List Int) (x : Int) : ∀ n, n < ys.length → stps ps (ys ++ [x]) n = stps ps ys n
  | 0, _ => rfl
  | n + 1, h => by
    unfold stps
    rw [stps_snoc ps ys x n (by omega)]
    unfold stp
    simp only [List.getD_eq_getElem?_getD]
    rw [List.getElem?_append_left (by omega), List.getElem?_append_left (by omega)]
theorem look_mem {m : MP} {k v : Int} (hn : (m.map (·.1)).Nodup) (h : (k, v) ∈ m) : look m k = some v := by
  induction m with
  | nil => cases h
  | cons p r ih =>
    unfold look
    rcases List.mem_cons.mp h with rfl | h
    · simp
    · have hn' := List.nodup_cons.mp hn
      rw [if_neg fun e : p.1 = k => hn'.1 (by show p.1 ∈ _; rw [e]; exact List.mem_map_of_mem (f := (·.1)) h)]
      exact ih hn'.2 h
theorem path_law (hn : ∀ u, ((adj u).map (·.1)).Nodup) (hg : ∀ u v, pgetP ps (u, v) = look (adj u) v) {ys : List Int} {x d : Int} (h : Path adj ys x d) :
    ys[0]? = some 0 ∧ (∃ pre, ys = pre ++ [x]) ∧ (∀ k, k + 1 < ys.length → ∃ c, pgetP ps (ys.getD k 0, ys.getD (k + 1) 0) = some c) ∧ stps ps ys (ys.length - 1) = d := by
  induction h with
  | zero => exact ⟨rfl, ⟨[], rfl⟩, fun k hk => by simp at hk, rfl⟩
  | @snoc ys v d u c _ hm ih =>
    obtain ⟨h1, ⟨pre, h2⟩, h3, h4⟩ := ih
    have hl : ys.length = pre.length + 1 := by rw [h2]; simp
    have hlast : (ys ++ [u]).getD (ys.length - 1) 0 = v := by
      rw [h2, List.getD_eq_getElem?_getD]; simp
    have hu : (ys ++ [u]).getD (ys.length - 1 + 1) 0 = u := by
      rw [show ys.length - 1 + 1 = ys.length by omega, List.getD_eq_getElem?_getD]; simp
    have hget : pgetP ps (v, u) = some c := by rw [hg]; exact look_mem (hn v) hm
    refine ⟨?_, ⟨ys, rfl⟩, fun k hk => ?_, ?_⟩
    · rw [List.getElem?_append_left (by omega)]; exact h1
    · by_cases e : k + 1 < ys.length
      · obtain ⟨c', hc⟩ := h3 k e
        refine ⟨c', ?_⟩
        simp only [List.getD_eq_getElem?_getD] at hc ⊢
        rw [List.getElem?_append_left (by omega), List.getElem?_append_left (by omega)]
        exact hc
      · have : k = ys.length - 1 := by simp at hk; omega
        subst this
        rw [hlast, hu]; exact ⟨c, hget⟩
    · rw [List.length_append, List.length_singleton, Nat.add_sub_cancel]
      have e : ys.length = (ys.length - 1) + 1 := by omega
      rw [e]
      unfold stps
      rw [stps_snoc _ _ _ _ (by omega), h4]
      unfold stp
      rw [hlast, hu, hget]; rfl
end
/-- two sorted lists with the same members -/
theorem sorted_eq {l l' : List Int} (hp : l.Perm l') (h1 : l.Pairwise (· ≤ ·)) (h2 : l'.Pairwise (· ≤ ·)) : l = l' :=
  List.Perm.eq_of_pairwise (le := (· ≤ ·)) (fun a b _ _ x y => by omega) h1 h2 hp
theorem rl_sorted (n : Nat) : (rl 0 1 n).Pairwise (· ≤ ·) := by
  unfold rl
  rw [List.pairwise_map]
  exact (List.pairwise_lt_range (n := n)).imp fun h => by omega
theorem mem_rl {n : Nat} {x : Int} : x ∈ rl 0 1 n ↔ 0 ≤ x ∧ x < n := by
  unfold rl
  rw [List.mem_map]
  constructor
  · rintro ⟨i, hi, rfl⟩
    have := List.mem_range.mp hi
    omega
  · rintro ⟨h0, h1⟩
    exact ⟨x.toNat, List.mem_range.mpr (by omega), by omega⟩
theorem rl_nodup (n : Nat) : (rl 0 1 n).Nodup := by
  unfold rl
  refine List.pairwise_map.mpr (List.Pairwise.imp ?_ List.nodup_range)
  intro a b h
  omega
/-- the reached rests in order are the multiples of the divisor -/
theorem reach_list {F : Int} {cs : List Int} {adj : Int → List (Int × Int)} {dm : MP} (M : LM adj dm) (G : EG F cs adj) (hn : (dm.map (·.1)).Nodup) {l : List Int} (hp : l.Perm (dm.map (·.1))) (hs : l.Pairwise (· ≤ ·)) :
    l = (rl 0 1 F.toNat).filter fun r => decide (r % gcds F cs = 0) := by
  have f2 := G.f2
  refine sorted_eq ?_ hs ((rl_sorted _).filter _)
  refine hp.trans ((List.perm_ext_iff_of_nodup hn (List.Nodup.sublist List.filter_sublist (rl_nodup _))).mpr fun x => ?_)
  have := M.reach G (x := x)
  rw [List.mem_filter, mem_rl, decide_eq_true_eq]
  have hk : x ∈ dm.map (·.1) ↔ (look dm x).isSome = true := by
    cases h : look dm x with
    | none => simp [look_none.mp h]
    | some d =>
      have := List.mem_map_of_mem (f := (·.1)) (look_some_mem h)
      simp only [Option.isSome_some, iff_true]
      exact this
  rw [hk, this]
  constructor
  · rintro ⟨a, b, c⟩; exact ⟨⟨a, by omega⟩, c⟩
  · rintro ⟨⟨a, b⟩, c⟩; exact ⟨a, by omega, c⟩
end Mine
end

section
set_option maxRecDepth 100000
set_option maxHeartbeats 4000000
set_option linter.unusedVariables false
set_option pp.deepTerms false
set_option pp.deepTerms.threshold 4
namespace Mine
open PySem PySem.W PySem.Calls PyProof.Rows

section
variable {M : Model} {A : Around} {E : Value → Shared → Prop} {s : Shared} {env : Env}
theorem MethodCallKw_ {o : PySem.Expr} {name : Str} {apos pos : Pos} {args : List PySem.Expr} {kws : List Keyword} {pl : Sem Bool} {Q : Value → Shared → Prop}
    (h : wpAny M A (eval o env) (fun ov s₁ => wpAny M A (getMethod ov name pl) (fun fx s₂ => wpAny M A (callWith pos fx.1 fx.2 (backTo pos (starEach args env)) (backToKw pos (keywordEach kws env))) Q E s₂) E s₁) E s)
    (he : eval (.Call (.Attribute o name apos) args kws pos) env = (do
      let ov ← eval o env
      standAt apos.atName
      let (f, first) ← holding [ov] (getMethod ov name pl)
      callWith pos f first (backTo pos (starEach args env)) (backToKw pos (keywordEach kws env))) := by rfl) :
    wpAny M A (eval (.Call (.Attribute o name apos) args kws pos) env) Q E s := by
  rw [he]
  refine wpAny_bind (wpAny_mono h (fun ov s₁ h₁ => wpAny_bind (wpAny_standAt (wpAny_bind (wpAny_holding (wpAny_mono h₁ (fun fx s₂ h₂ => ?_) fun _ _ x => x))))) fun _ _ x => x)
  exact h₂
end

theorem AKey.ints {w : World} {ks : List Int} {o : Obj} (h : AKey w ks o) : o.cls = .type "tuple" ∧ ∃ us n, o.data = .seq us.toArray n ∧ IntsAre us ks := by
  obtain ⟨h1, items, n, h2, h3⟩ := h
  refine ⟨h1, items.toList, n, by simpa using h2, ?_⟩
  generalize items.toList = us at h3
  clear h1 h2
  induction h3 with
  | nil => exact .nil
  | cons hk _ ih =>
    obtain ⟨t, rfl⟩ := Value.isInt_shape hk
    exact .cons _ _ ih
section
variable {w : World} {A : Around} {E : Value → Shared → Prop} {h₀ : Heap} {L : Addr} {ns : List Str} {vs : List (Option Value)} {l : List (Addr × Assn)} {b s : Shared} {env : Env} {a c : Addr}
theorem s_pair {value slice : PySem.Expr} {ks : List Int} {k : Int} {u : Tok} {Q : Value → Shared → Prop} (S : St h₀ L ns vs l b s) (i : Nat) (hi : l[i]? = some (a, AKey w ks)) (h0 : 0 ≤ k) (h1 : k < ks.length) (h2 : k < 100) (h : ∀ t, Q (.int (ks.getD k.toNat 0) t) s)
    (hs : subscripted slice false (.ref a) (.int k u) = operate [.ref a, .int k u] (getItem (.ref a) (.int k u)) := by with_unfolding_all rfl) (hg : ∀ r, letTemporaryGo value (.ref a) r = pure () := by intro _; with_unfolding_all rfl) :
    wpAny (model PG w) A (subscriptTail value slice (.ref a) (.int k u)) Q E s := by
  obtain ⟨o, ho, hk⟩ := S.at hi
  obtain ⟨hc, us, n, hd, hI⟩ := hk.ints
  exact item_tuple_ints ⟨o, ho, hc, n, hd⟩ hI h0 h1 (by omega) h hs hg
end

/-- the law's names -/
abbrev lv (vk vc vG vrest vleast vcoin vedge vsums vway vgaps vcount : Option Value) : List (Option Value) := [vk, vc, vG, vrest, vleast, vcoin, vedge, vsums, vway, vgaps, vcount]

theorem law_e {w : World} {A : Around} {Q : Flow → Shared → Prop} {h₀ : Heap} {L fa : Addr} {cd : Value} {b s : Shared} {vk vc vG : Option Value} {rest : List (Addr × Assn)} {E : Value → Shared → Prop}
    (S : St h₀ L lawNs (lv vk vc vG none none none none none none none none) rest b s) (W : Wd w h₀)
    (k : ∀ la s', St h₀ L lawNs (lv vk vc vG none (some (.ref la)) none none none none none none) ((la, ATD w []) :: rest) b s' → wpAny (model PG w) A (execs (bodyFrom 5) (lawEnv L fa cd)) Q E s') :
    wpAny (model PG w) A (execs (bodyFrom 4) (lawEnv L fa cd)) Q E s := by
  have e := lawEv L fa cd
  refine wpAny_execs_cons ?_
  refine wpAny_Assign_Name ?_
  refine s_dictLit S ?_
  clear S; intro la s S
  refine st_i e S 4 rfl ?_
  clear S; intro s S
  exact k la s (S.mono (i := 0) rfl ATD.empty)

theorem law_f {w : World} {A : Around} {Q : Flow → Shared → Prop} {h₀ : Heap} {L fa : Addr} {cd : Value} {b s : Shared} {ca x dx ag an aa ap la : Addr} {sc : Option Value} {F : Int} {ft : Tok} {cvs : List Value} {cs : List Int} {rs : List NRec} {rest : List (Addr × Assn)} {E : Value → Shared → Prop}
    (S : St h₀ L lawNs (lv none (some (.ref ca)) (some (.ref x)) none (some (.ref la)) none none none none none none) (cellL L sc (some (.int F ft)) none none none none ++ ((la, ATD w []) :: (GL w x dx ag an aa ap rs (fun _ => []) (fun _ => []) [] ++ rest))) b s) (W : Wd w h₀) (r : Rm A 40)
    (hca : (ca, AList cvs) ∈ rest) (hcs : IntsAre cvs cs) (hcz : cs.length ≤ 3) (c2 : ∀ c ∈ cs, 2 ≤ c ∧ c ≤ 15) (hF : 2 ≤ F) (hF2 : F ≤ 9) (hn : (rs.map (·.k)).Nodup) (hkm : ∀ k, 0 ≤ k → k < F → k ∈ rs.map (·.k))
    (k : ∀ v3 v5 v6 xs ps es psx ds adj s', St h₀ L lawNs (lv none (some (.ref ca)) (some (.ref x)) v3 (some (.ref la)) v5 v6 none none none none) (cellL L sc (some (.int F ft)) none none none none ++ ((la, ATD w xs) :: (GL w x dx ag an aa ap rs es psx ds ++ (tkL w xs ++ rest)))) b s' → TRel xs ps → GI es psx ds adj → EG F cs adj → (∀ u v, pget ps (u, v) = look (adj u) v) →
      wpAny (model PG w) A (execs (bodyFrom 6) (lawEnv L fa cd)) Q E s') :
    wpAny (model PG w) A (execs (bodyFrom 5) (lawEnv L fa cd)) Q E s := by
  have e := lawEv L fa cd
  refine wpAny_execs_cons ?_
  refine wpAny_For ?_
  refine Call_ ?_
  refine ld_b e W S (.builtin "sorted") (by k_is) rfl (by boot_by_name) (by decide) ?_
  refine cw_b1 ?_
  refine ld_i e S 1 rfl rfl ?_
  have hclen := IntsAre.length hcs
  refine s_sorted (xs := cvs) S (S.mem (List.mem_append_right _ (List.mem_cons_of_mem _ (List.mem_append_right _ hca)))) hcs (by omega) ?_
  clear S; intro D us scs s S hI hP hSo
  have hz : scs.length ≤ 3 := by rw [hP.length_eq]; exact hcz
  have hlen := IntsAre.length hI
  have S1 := S.perm (l' := cellL L sc (some (.int F ft)) none none none none ++ ((la, ATD w []) :: (GL w x dx ag an aa ap rs (fun _ => []) (fun _ => []) [] ++ (tkL w [] ++ ((D, APL us) :: rest))))) (by
    refine List.Perm.trans ?_ (List.perm_middle (l₁ := []))
    refine List.Perm.trans (List.Perm.append_left _ (List.Perm.cons _ (List.perm_middle (l₁ := GL w x dx ag an aa ap rs (fun _ => []) (fun _ => []) [])))) ?_
    refine List.Perm.trans (List.perm_middle (l₁ := cellL L sc (some (.int F ft)) none none none none ++ [(la, ATD w [])]) (a := (D, APL us)) (l₂ := GL w x dx ag an aa ap rs (fun _ => []) (fun _ => []) [] ++ rest)) ?_
    exact List.Perm.refl _)
  clear S
  refine s_iterList (xs := us) (fun i vs l => ∃ v3 v5 v6 xs ps es psx ds adj, vs = lv none (some (.ref ca)) (some (.ref x)) v3 (some (.ref la)) v5 v6 none none none none ∧
      l = cellL L sc (some (.int F ft)) none none none none ++ ((la, ATD w xs) :: (GL w x dx ag an aa ap rs es psx ds ++ (tkL w xs ++ ((D, APL us) :: rest)))) ∧
      TRel xs ps ∧ GI es psx ds adj ∧ EO F (scs.take i) ps adj ∧ ds.length ≤ 9 * i ∧ xs.length ≤ 9 * i)
    S1 r.hh ⟨none, none, none, [], [], _, _, [], _, rfl, rfl, .nil, GI.zero, EO.zero F, Nat.zero_le _, Nat.zero_le _⟩ ?_ ?_ ?_
  · rintro i vs l s ⟨v3, v5, v6, xs, ps, es, psx, ds, adj, rfl, rfl, -⟩ S
    obtain ⟨o, ho, hp⟩ := S.mem (a := D) (P := APL us) (List.mem_append_right _ (List.mem_cons_of_mem _ (List.mem_append_right _ (List.mem_append_right _ List.mem_cons_self))))
    exact let ⟨a, c⟩ := apl_list _ hp; ⟨o, ho, a, c⟩
  · rintro i v it It vs l s hv ⟨v3, v5, v6, xs, ps, es, psx, ds, adj, rfl, rfl, hT, hG, hE, hds, hxs⟩ S
    clear S1
    have hi : i < scs.length := by rw [← hlen]; exact (List.getElem?_eq_some_iff.mp hv).1
    obtain ⟨t, hx⟩ := hI.get i scs[i] (by simp [hi])
    rw [hv] at hx
    cases hx
    have hdone : scs.take (i + 1) = scs.take i ++ [scs[i]] := by rw [List.take_add_one]; simp [hi]
    have hle : ∀ y ∈ scs.take i, y ≤ scs[i] := fun y hy => by
      obtain ⟨j, hj, rfl⟩ := List.mem_iff_getElem.mp hy
      rw [List.getElem_take]
      rw [List.length_take] at hj
      exact List.pairwise_iff_getElem.mp hSo j i (by omega) hi (by omega)
    rw [hdone]
    generalize scs[i] = coin at *
    generalize scs.take i = done at *
    refine wpAny_assign_Name (st_i e S 5 rfl ?_)
    clear S; intro s S
    refine wpAny_execs_cons ?_
    refine wpAny_For ?_
    refine Call_ ?_
    refine ld_b e W S (.type "range") (by k_is) rfl (by boot_by_name) (by decide) ?_
    refine cw_t1 ?_
    refine ld_c S 2 rfl rfl rfl rfl ?_
    refine s_range1 S ?_
    clear S; intro rg s S
    refine s_iterRange (n := F.toNat) (fun k vs l => ∃ v3 v6 xs ps es psx ds adj, vs = lv none (some (.ref ca)) (some (.ref x)) v3 (some (.ref la)) (some (.int coin t)) v6 none none none none ∧
        l = (it, It) :: (cellL L sc (some (.int F ft)) none none none none ++ ((la, ATD w xs) :: (GL w x dx ag an aa ap rs es psx ds ++ (tkL w xs ++ ((D, APL us) :: rest))))) ∧
        TRel xs ps ∧ GI es psx ds adj ∧ EI F done coin k ps adj ∧ ds.length ≤ 9 * i + k ∧ xs.length ≤ 9 * i + k)
      S r.hh ⟨v3, v6, xs, ps, es, psx, ds, adj, rfl, rfl, hT, hG, hE.turn coin, hds, hxs⟩ (rsmall (by decide) (by decide) (by omega) (by omega) (by decide) (by decide)) (by rw [rsize1, Int.sub_zero]) ?_ ?_
    · clear S hT hG hE hds hxs xs ps es psx ds adj v3 v5 v6
      rintro j tk it2 It2 vs l s hj ⟨v3, v6, xs, ps, es, psx, ds, adj, rfl, rfl, hT, hG, hE, hds, hxs⟩ S
      rw [show (0 : Int) + (j : Int) * 1 = j by omega]
      refine wpAny_assign_Name (st_i e S 3 rfl ?_)
      clear S; intro s S
      refine wpAny_execs_cons ?_
      refine wpAny_Assign_Name ?_
      refine s_tuple2 ?_ rfl rfl
      refine ld_i e S 3 rfl rfl ?_
      refine wpAny_BinOp ?_
      refine wpAny_BinOp ?_
      refine ld_i e S 3 rfl rfl ?_
      refine ld_i e S 5 rfl rfl ?_
      with_reducible refine s_add S ?_
      clear S; intro t1 s S
      refine ld_c S 3 rfl rfl rfl rfl ?_
      with_reducible refine s_mod S (by omega) ?_
      clear S; intro t2 s S
      with_reducible refine s_newTuple S rfl ?_
      clear S; intro ta s S
      refine st_i e S 6 rfl ?_
      clear S; intro s S
      replace S := S.mono (i := 0) (P' := AKey w [(j : Int), ((j : Int) + coin) % F]) rfl AKey.made
      refine wpAny_execs_cons ?_
      with_reducible refine wpAny_If ?_
      refine wpAny_isTrue_Compare1 ?_
      refine ld_i e S 6 rfl rfl ?_
      refine ld_i e S 4 rfl rfl ?_
      have hla : (la, ATD w xs) ∈ (ta, AKey w [(j : Int), ((j : Int) + coin) % F]) :: (it2, It2) :: (it, It) :: (cellL L sc (some (.int F ft)) none none none none ++ ((la, ATD w xs) :: (GL w x dx ag an aa ap rs es psx ds ++ (tkL w xs ++ ((D, APL us) :: rest))))) := by simp
      have htk : ∀ p ∈ tkL w xs, p ∈ (ta, AKey w [(j : Int), ((j : Int) + coin) % F]) :: (it2, It2) :: (it, It) :: (cellL L sc (some (.int F ft)) none none none none ++ ((la, ATD w xs) :: (GL w x dx ag an aa ap rs es psx ds ++ (tkL w xs ++ ((D, APL us) :: rest))))) := fun p hp => by simp [hp]
      refine s_tnotin S (r.le (by decide)) hT hla htk List.mem_cons_self ?_
      clear S; intro s S
      with_reducible refine wpAny_truthy_bool ?_
      cases hg : pget ps ((j : Int), ((j : Int) + coin) % F) with
      | some c0 =>
        rw [if_neg (by simp)]
        refine wpAny_execs_nil ?_
        refine wpAny_execs_nil ?_
        exact ⟨_, _, ⟨some (.int j tk), some (.ref ta), xs, ps, es, psx, ds, adj, rfl, rfl, hT, hG, hE.old hle hg, by omega, by omega⟩, S.tl⟩
      | none =>
        rw [if_pos (by simp)]
        refine wpAny_execs_cons ?_
        refine wpAny_Assign_Subscript ?_
        refine ld_i e S 5 rfl rfl ?_
        refine ld_i e S 4 rfl rfl ?_
        refine ld_i e S 6 rfl rfl ?_
        refine s_tset S (r.le (by decide)) hT 9 rfl htk List.mem_cons_self hg (by omega) ?_
        clear S; intro s S
        refine wpAny_execs_cons ?_
        refine wpAny_Expr ?_
        refine MethodCallKw_ ?_
        refine ld_i e S 2 rfl rfl ?_
        refine s_meth 935 S W.X (S.inst 10 11 rfl rfl) (by k_is) (by k_is) (by k_is) (by rfl) ?_
        refine callWith_KW W.X (by k_is) rfl ?_
        refine args_cons ?_
        with_reducible refine Subscript_ ?_
        refine ld_i e S 6 rfl rfl ?_
        with_reducible refine s_ci S ?_
        clear S; intro t3 s S
        refine s_pair (ks := [(j : Int), ((j : Int) + coin) % F]) S 0 rfl (by decide) (by simp) (by decide) ?_
        intro t4
        refine args_cons ?_
        with_reducible refine Subscript_ ?_
        refine ld_i e S 6 rfl rfl ?_
        with_reducible refine s_ci S ?_
        clear S; intro t5 s S
        refine s_pair (ks := [(j : Int), ((j : Int) + coin) % F]) S 0 rfl (by decide) (by simp) (by decide) ?_
        intro t6
        refine args_nil ?_
        refine kwAll_cons ?_
        refine ld_i e S 5 rfl rfl ?_
        refine kwAll_nil ?_
        refine ⟨(W.at S).X, wpAny_call ?_⟩
        have S2 := S.perm (l' := GL w x dx ag an aa ap rs es psx ds ++ (((ta, AKey w [(j : Int), ((j : Int) + coin) % F]) :: (it2, It2) :: (it, It) :: (cellL L sc (some (.int F ft)) none none none none ++ [(la, ATD w (xs ++ [([(j : Int), ((j : Int) + coin) % F], ta, .int coin t)]))])) ++ (tkL w xs ++ ((D, APL us) :: rest)))) (List.perm_append_comm_assoc _ _ _)
        clear S
        have hv0 : 0 ≤ ((j : Int) + coin) % F := Int.emod_nonneg _ (by omega)
        have hv1 : ((j : Int) + coin) % F < F := Int.emod_lt_of_pos _ (by omega)
        refine add_step (u := (j : Int)) (v := ((j : Int) + coin) % F) S2 W (r.le (by decide)) hn hG (hkm _ (by omega) (by omega)) (hkm _ hv0 hv1) ?_ (by omega) ?_
        · have := hE.get j (((j : Int) + coin) % F)
          rw [show pgetP ps ((j : Int), ((j : Int) + coin) % F) = none from hg] at this
          exact look_none.mp this.symm
        clear S2; intro es' ps' ds' s S hG' hlen'
        refine wpAny_execs_nil ?_
        refine wpAny_execs_nil ?_
        refine ⟨_, _, ⟨some (.int j tk), some (.ref ta), _, _, es', ps', ds', _, rfl, rfl, hT.snoc _ _ _ ta t, hG', hE.new (by omega) hg, by omega, by simp; omega⟩, ?_⟩
        refine S.perm ?_
        have htl : tkL w (xs ++ [([(j : Int), ((j : Int) + coin) % F], ta, .int coin t)]) = tkL w xs ++ [(ta, AKey w [(j : Int), ((j : Int) + coin) % F])] := by simp [tkL]
        rw [htl]
        generalize GL w x dx ag an aa ap rs es' ps' ds' = G0
        generalize tkL w xs = T0
        generalize cellL L sc (some (.int F ft)) none none none none = C0
        generalize (D, APL us) :: rest = R0
        refine List.Perm.trans ?_ (List.perm_append_comm_assoc ((ta, AKey w [(j : Int), ((j : Int) + coin) % F]) :: (it2, It2) :: (it, It) :: (C0 ++ [(la, ATD w (xs ++ [([(j : Int), ((j : Int) + coin) % F], ta, .int coin t)]))])) G0 (T0 ++ R0))
        simp only [List.cons_append, List.append_assoc, List.nil_append]
        generalize ATD w (xs ++ [([(j : Int), ((j : Int) + coin) % F], ta, .int coin t)]) = P0
        have : (it2, It2) :: (it, It) :: (C0 ++ (la, P0) :: (G0 ++ (T0 ++ (ta, AKey w [(j : Int), ((j : Int) + coin) % F]) :: R0))) = ((it2, It2) :: (it, It) :: (C0 ++ (la, P0) :: (G0 ++ T0))) ++ (ta, AKey w [(j : Int), ((j : Int) + coin) % F]) :: R0 := by simp
        rw [this]
        refine List.Perm.trans List.perm_middle ?_
        simp
    · clear S hT hG hE hds hxs xs ps es psx ds adj v3 v5 v6
      rintro vs l s ⟨v3, v6, xs, ps, es, psx, ds, adj, rfl, rfl, hT, hG, hE, hds, hxs⟩ S
      refine wpAny_execs_nil ?_
      exact ⟨_, _, ⟨_, _, _, xs, ps, es, psx, ds, adj, rfl, rfl, hT, hG, hE.done_ (by omega), by omega, by omega⟩, S⟩
  · rintro vs l s ⟨v3, v5, v6, xs, ps, es, psx, ds, adj, rfl, rfl, hT, hG, hE, hds, hxs⟩ S
    clear S1
    rw [hlen, List.take_length] at hE
    refine k v3 v5 v6 xs ps es psx ds adj s ?_ hT hG (hE.eg hF hF2 c2 hz fun c => hP.mem_iff) hE.get
    refine S.sub ?_
    refine List.Sublist.append_left (List.Sublist.cons_cons _ (List.Sublist.append_left (List.Sublist.append_left (List.sublist_cons_self _ _) _) _)) _
end Mine
end

section
set_option maxRecDepth 100000
set_option maxHeartbeats 4000000
set_option linter.unusedVariables false
set_option pp.deepTerms false
set_option pp.deepTerms.threshold 4
namespace Mine
open PySem PySem.W PySem.Calls PyProof.Rows

/-- what stands beside the cells: the least edges, the graph, the table of the search -/
abbrev BL (w : World) (la x dx ag an aa ap : Addr) (xs : TKV) (rs : List NRec) (es psx : Int → IKV) (ds : List (Addr × Int)) (T : Option Addr) (rest : List (Addr × Assn)) : List (Addr × Assn) :=
  (la, ATD w xs) :: (GL w x dx ag an aa ap rs es psx ds ++ (tkL w xs ++ (tabW T ++ rest)))

theorem BL.toTab {w : World} {la x dx ag an aa ap : Addr} {xs : TKV} {rs : List NRec} {es psx : Int → IKV} {ds : List (Addr × Int)} {T : Option Addr} {rest : List (Addr × Assn)} (C : List (Addr × Assn)) :
    (tabW T ++ (GL w x dx ag an aa ap rs es psx ds ++ (C ++ ((la, ATD w xs) :: (tkL w xs ++ rest))))).Perm (C ++ BL w la x dx ag an aa ap xs rs es psx ds T rest) := by
  unfold BL
  generalize GL w x dx ag an aa ap rs es psx ds = G
  generalize tkL w xs = K
  refine List.Perm.trans (l₂ := G ++ (C ++ ((la, ATD w xs) :: (K ++ (tabW T ++ rest))))) ?_ ?_
  · have e : G ++ (C ++ ((la, ATD w xs) :: (K ++ (tabW T ++ rest)))) = (G ++ (C ++ ((la, ATD w xs) :: K))) ++ (tabW T ++ rest) := by simp
    rw [e]
    refine List.Perm.trans ?_ (List.perm_append_comm_assoc _ _ _)
    simp
  · refine List.Perm.trans (List.perm_append_comm_assoc _ _ _) ?_
    refine List.Perm.append_left _ ?_
    exact List.perm_middle

theorem St.grAt {w : World} {h₀ : Heap} {L : Addr} {ns : List Str} {vs : List (Option Value)} {b s : Shared} {x dx ag an aa ap : Addr} {rs : List NRec} {es psx : Int → IKV} {ds : List (Addr × Int)} {adj : Int → List (Int × Int)} {n : Int} {lm R : List (Addr × Assn)}
    (S : St h₀ L ns vs (lm ++ (GL w x dx ag an aa ap rs es psx ds ++ R)) b s) (I : GI es psx ds adj) (hn : (rs.map (·.k)).Nodup) (hk : ∀ k, 0 ≤ k → k < n → k ∈ rs.map (·.k)) : GrAt w (hideAll s.heap (lm.map (·.1))) x n adj :=
  I.at_ hn hk (fun p hp => S.held (List.mem_append_left _ hp)) (fun p hp => (S.N.1 p (List.mem_append_right _ (List.mem_append_left _ hp))).2.2.2)

theorem law_g {w : World} {A : Around} {Q : Flow → Shared → Prop} {h₀ : Heap} {L fa : Addr} {cd : Value} {b s : Shared} {x dx ag an aa ap la : Addr} {vc v3 v4 v5 v6 sc : Option Value} {F : Int} {ft : Tok} {cs : List Int} {rs : List NRec} {xs : TKV} {es psx : Int → IKV} {ds : List (Addr × Int)} {adj : Int → List (Int × Int)} {T : Option Addr} {rest : List (Addr × Assn)} {E : Value → Shared → Prop}
    (S : St h₀ L lawNs (lv none vc (some (.ref x)) v3 v4 v5 v6 none none none none) (cellL L sc (some (.int F ft)) none none none none ++ BL w la x dx ag an aa ap xs rs es psx ds T rest) b s) (W : Wd w h₀) (r : Rm A 40)
    (I : GI es psx ds adj) (G : EG F cs adj) (hn : (rs.map (·.k)).Nodup) (hkm : ∀ k, 0 ≤ k → k < F → k ∈ rs.map (·.k))
    (k : ∀ Dd dm T' s', St h₀ L lawNs (lv none vc (some (.ref x)) v3 v4 v5 v6 none none none none) (cellL L sc (some (.int F ft)) (some (.ref Dd)) none none none ++ ((Dd, AIM w dm) :: BL w la x dx ag an aa ap xs rs es psx ds T' rest)) b s' → LM adj dm →
      wpAny (model PG w) A (execs (bodyFrom 7) (lawEnv L fa cd)) Q E s') :
    wpAny (model PG w) A (execs (bodyFrom 6) (lawEnv L fa cd)) Q E s := by
  have e := lawEv L fa cd
  have f2 := G.f2
  have f9 := G.f9
  refine wpAny_execs_cons ?_
  refine wpAny_Assign_Name ?_
  refine Call_ ?_
  refine ld_g e W S (.ref 145) (by k_is) rfl ?_
  refine cw_f2 W (by k_is) ?_
  refine ld_i e S 2 rfl rfl ?_
  with_reducible refine s_ci S ?_
  clear S; intro t1 s S
  refine ⟨W.at S, wpAny_call ?_⟩
  have S1 := S.perm (BL.toTab (cellL L sc (some (.int F ft)) none none none none))
  clear S
  refine single_len_spec T S1 W (r.le (by decide)) (S1.grAt I hn hkm) G.gok (by omega) (by omega) ?_
  intro Dd dm c' s S h1 h2
  clear S1
  rw [List.append_assoc] at S
  have S1 := S.perm (l' := (Dd, AIM w dm) :: (cellL L sc (some (.int F ft)) none none none none ++ BL w la x dx ag an aa ap xs rs es psx ds (some c') rest)) (.cons _ (BL.toTab (cellL L sc (some (.int F ft)) none none none none)).symm)
  clear S
  refine st_c S1 3 rfl rfl rfl rfl ?_
  clear S1; intro s S
  refine k Dd dm (some c') s ?_ ⟨h1, h2⟩
  exact S.perm (List.perm_middle (l₁ := cellL L sc (some (.int F ft)) (some (.ref Dd)) none none none))

theorem law_h {w : World} {A : Around} {Q : Flow → Shared → Prop} {h₀ : Heap} {L fa : Addr} {cd : Value} {b s : Shared} {vs : List (Option Value)} {sc fi ln : Option Value} {rest : List (Addr × Assn)} {E : Value → Shared → Prop}
    (S : St h₀ L lawNs vs (cellL L sc fi ln none none none ++ rest) b s) (W : Wd w h₀)
    (k : ∀ pa s', St h₀ L lawNs vs (cellL L sc fi ln (some (.ref pa)) none none ++ ((pa, APL ([true].map Value.bool)) :: rest)) b s' → wpAny (model PG w) A (execs (bodyFrom 8) (lawEnv L fa cd)) Q E s') :
    wpAny (model PG w) A (execs (bodyFrom 7) (lawEnv L fa cd)) Q E s := by
  have e := lawEv L fa cd
  refine wpAny_execs_cons ?_
  refine wpAny_Assign_Name ?_
  refine s_list1 ?_
  refine wpAny_Constant_bool ?_
  refine s_newListP S rfl ?_
  clear S; intro pa s S
  refine st_c S 4 rfl rfl rfl rfl ?_
  clear S; intro s S
  exact k pa s (S.perm (List.perm_middle (l₁ := cellL L sc fi ln (some (.ref pa)) none none)))

section
variable {M : Model} {A : Around} {E : Value → Shared → Prop} {s : Shared} {cenv : Env}
theorem ifs_one {c : PySem.Expr} {Q : Bool → Shared → Prop} (h : wpAny M A (isTrue c cenv (eval c cenv)) Q E s) :
    wpAny M A (forIn [c] true fun c r => if r = true then do let ok ← isTrue c cenv (eval c cenv); pure (ForInStep.yield ok) else pure (ForInStep.yield r)) Q E s := by
  rw [List.forIn_cons]
  refine wpAny_bind ?_
  rw [if_pos rfl]
  refine wpAny_bind (wpAny_mono h (fun ok s' h' => ?_) fun _ _ x => x)
  refine wpAny_pure ?_
  show wpAny M A (forIn [] ok _) Q E s'
  rw [List.forIn_nil]
  exact wpAny_pure h'
theorem ifs_nil {Q : Bool → Shared → Prop} (h : Q true s) :
    wpAny M A (forIn ([] : List PySem.Expr) true fun c r => if r = true then do let ok ← isTrue c cenv (eval c cenv); pure (ForInStep.yield ok) else pure (ForInStep.yield r)) Q E s := by
  rw [List.forIn_nil]; exact wpAny_pure h
end
end Mine
end

section
set_option maxRecDepth 100000
set_option maxHeartbeats 4000000
set_option linter.unusedVariables false
set_option pp.deepTerms false
set_option pp.deepTerms.threshold 4
namespace Mine
open PySem PySem.W PySem.Calls PyProof.Rows

theorem any_take_succ {p : Int → Bool} {cs : List Int} {i : Nat} {c : Int} (h : cs[i]? = some c) : (cs.take (i + 1)).any p = ((cs.take i).any p || p c) := by
  rw [List.take_add_one, h]; simp
theorem bools_at {bs : List Bool} {j : Nat} (h : j < bs.length) : (bs.map Value.bool)[j]? = some (.bool (bs.getD j false)) := by
  rw [List.getElem?_map, List.getD_eq_getElem?_getD, List.getElem?_eq_getElem h]; rfl

theorem law_i {w : World} {A : Around} {Q : Flow → Shared → Prop} {h₀ : Heap} {L fa : Addr} {cd : Value} {b s : Shared} {ca pa : Addr} {vk v2 v3 v4 v5 v6 v7 v8 v9 v10 : Option Value} {sc ln : Option Value} {F : Int} {ft : Tok} {cvs : List Value} {cs : List Int} {rest : List (Addr × Assn)} {E : Value → Shared → Prop}
    (S : St h₀ L lawNs (lv vk (some (.ref ca)) v2 v3 v4 v5 v6 v7 v8 v9 v10) (cellL L sc (some (.int F ft)) ln (some (.ref pa)) none none ++ ((pa, APL ([true].map Value.bool)) :: rest)) b s) (W : Wd w h₀) (r : Rm A 40)
    (hca : (ca, AList cvs) ∈ rest) (hcs : IntsAre cvs cs) (hcz : cs.length ≤ 3) (c2 : ∀ c ∈ cs, 2 ≤ c ∧ c ≤ 15) (hF : 2 ≤ F) (hF2 : F ≤ 9)
    (k : ∀ tot bs s', St h₀ L lawNs (lv vk (some (.ref ca)) v2 v3 v4 v5 v6 v7 v8 v9 v10) (cellL L sc (some (.int F ft)) ln (some (.ref pa)) tot none ++ ((pa, APL (bs.map Value.bool)) :: rest)) b s' → bs.length = 161 → Tab (cs ++ [F]) bs →
      wpAny (model PG w) A (execs (bodyFrom 9) (lawEnv L fa cd)) Q E s') :
    wpAny (model PG w) A (execs (bodyFrom 8) (lawEnv L fa cd)) Q E s := by
  have e := lawEv L fa cd
  have hclen := IntsAre.length hcs
  have c2' : ∀ c ∈ cs ++ [F], 2 ≤ c := fun c hc => by
    rcases List.mem_append.mp hc with h | h
    · exact (c2 c h).1
    · rw [List.mem_singleton.mp h]; exact hF
  refine wpAny_execs_cons ?_
  refine wpAny_For ?_
  refine Call_ ?_
  refine ld_b e W S (.type "range") (by k_is) rfl (by boot_by_name) (by decide) ?_
  refine cw_t2 ?_
  with_reducible refine s_ci S ?_
  clear S; intro t1 s S
  with_reducible refine s_ci S ?_
  clear S; intro t2 s S
  refine s_range2 S ?_
  clear S; intro rg s S
  refine s_iterRange (n := 160) (fun i vs l => ∃ tot bs, vs = lv vk (some (.ref ca)) v2 v3 v4 v5 v6 v7 v8 v9 v10 ∧ l = cellL L sc (some (.int F ft)) ln (some (.ref pa)) tot none ++ ((pa, APL (bs.map Value.bool)) :: rest) ∧ bs.length = i + 1 ∧ Tab (cs ++ [F]) bs)
    S r.hh ⟨none, [true], rfl, rfl, rfl, Tab.zero _⟩ (rsmall (by decide) (by decide) (by decide) (by decide) (by decide) (by decide)) (by rw [rsize1]; decide) ?_ ?_
  · clear S
    rintro i tk it It vs l s hi ⟨tot, bs, rfl, rfl, hbl, hT⟩ S
    have eT : (1 : Int) + (i : Int) * 1 = (bs.length : Int) := by omega
    rw [eT]
    generalize hn : bs.length = n at *
    refine wpAny_assign_Name (st_c S 5 rfl rfl rfl rfl ?_)
    clear S; intro s S
    refine wpAny_execs_cons ?_
    refine wpAny_Expr ?_
    refine MethodCall_ ?_
    refine ld_c S 4 rfl rfl rfl rfl ?_
    refine s_lmeth PySem.F.slot_list_append PySem.F.type_list_append S 7 rfl ?_
    refine cw_m1 ?_
    refine wpAny_Compare1 ?_
    refine s_compEval (cl := _) (by rfl) (by rfl) ?_
    refine wpAny_BinOp ?_
    refine ld_i e S 1 rfl rfl ?_
    refine s_list1 ?_
    refine ld_c S 2 rfl rfl rfl rfl ?_
    refine s_newListP S rfl ?_
    clear S; intro fl s S
    have hcm : (ca, AList cvs) ∈ (fl, APL [.int F ft]) :: (it, It) :: (cellL L sc (some (.int F ft)) ln (some (.ref pa)) (some (.int n tk)) none ++ ((pa, APL (bs.map Value.bool)) :: rest)) := List.mem_cons_of_mem _ (List.mem_cons_of_mem _ (List.mem_append_right _ (List.mem_cons_of_mem _ hca)))
    obtain ⟨of, hof, hpf⟩ := S.at (i := 0) rfl
    refine s_addL (xs := cvs) (ys := [.int F ft]) S (S.mem hcm) (let ⟨a, c⟩ := apl_list _ hpf; ⟨of, hof, a, c⟩) (by simp; omega) ?_
    clear S hpf hof of; intro D s S
    have hI2 : IntsAre (cvs ++ [.int F ft]) (cs ++ [F]) := intsAre_snoc hcs F ft
    generalize hcv : cvs ++ [.int F ft] = ws at hI2 S
    have hwl : ws.length = cs.length + 1 := by rw [← hcv]; simp; omega
    generalize cs ++ [F] = cf at *
    have hcl := IntsAre.length hI2
    obtain ⟨oD, hoD, hpD⟩ := S.at (i := 0) rfl
    refine it_list S (let ⟨a, c⟩ := apl_list _ hpD; ⟨oD, hoD, a, c⟩) ?_
    clear S hpD hoD oD; intro I s S
    have hIf : h₀.get? I = none := (S.N.1 _ List.mem_cons_self).2.2.1
    refine s_comp (fun i ys => ∃ zs, IntsAre ys zs ∧ (zs = [] ↔ (cf.take i).any (pays bs n) = false)) S (Steps.list r.hh I D ws) (by omega) (by rfl) rfl rfl ?_ ⟨[], .nil, by simp⟩ ?_ ?_
    · intro h' hk
      obtain ⟨oD, hoD, hpD⟩ := S.at (i := 1) rfl
      exact let ⟨a, c⟩ := apl_list _ hpD; ⟨oD, hk _ _ (S.ne 1 0 rfl rfl rfl) hoD, a, c⟩
    · rintro j v ys C h₁ hid s' hlt hv ⟨zs, hzs, hz⟩ hlen base S' ev
      have W' : Wd w h₁ := W.keep fun a o q => base a o (fun e' => by rw [e'] at q; rw [hIf] at q; cases q) (S.F.keep _ _ q)
      have hc1 : h₁.IsCell (L + 5) (some (.int n tk)) := by
        obtain ⟨o, a, c⟩ := S.at (i := 8) rfl
        exact ⟨o, base _ _ (fun q => by have := S.ne 8 0 rfl rfl rfl; exact this q) a, c⟩
      have hc2 : h₁.IsCell (L + 4) (some (.ref pa)) := by
        obtain ⟨o, a, c⟩ := S.at (i := 7) rfl
        exact ⟨o, base _ _ (fun q => by have := S.ne 7 0 rfl rfl rfl; exact this q) a, c⟩
      have hpa : h₁.IsList pa (bs.map Value.bool).toArray := by
        obtain ⟨o, a, c⟩ := S.at (i := 10) rfl
        exact let ⟨x, y⟩ := apl_list _ c; ⟨o, base _ _ (S.ne 10 0 rfl rfl rfl) a, x, y⟩
      have hj : j < cf.length := by omega
      obtain ⟨t, hx⟩ := hI2.get j cf[j] (by simp [hj])
      rw [hv] at hx
      cases hx
      have hcj : cf[j]? = some cf[j] := by simp [hj]
      have hc2 := c2' _ (List.getElem_mem hj)
      rw [any_take_succ hcj]
      generalize cf[j] = c at *
      refine ifs_one ?_
      refine isTrue_and ?_
      refine wpAny_isTrue_Compare1 ?_
      refine ld_i ev S' 0 rfl rfl ?_
      refine ld_c0 S' hc1 rfl rfl rfl ?_
      with_reducible refine le_int ?_
      with_reducible refine wpAny_truthy_bool ?_
      by_cases hle : c ≤ (n : Int)
      · rw [if_pos (by simpa using hle)]
        refine isTrue_and ?_
        refine isTrue_plain ?_
        with_reducible refine Subscript_ ?_
        refine ld_c0 S' ‹h₁.IsCell (L + 4) (some (.ref pa))› rfl rfl rfl ?_
        refine wpAny_BinOp ?_
        refine ld_c0 S' hc1 rfl rfl rfl ?_
        refine ld_i ev S' 0 rfl rfl ?_
        with_reducible refine s_sub S' ?_
        clear S'; intro t3 s' S'
        refine s_sub_list (xs := bs.map Value.bool) (x := .bool (bs.getD ((n : Int) - c).toNat false)) (let ⟨o, a, x⟩ := hpa; ⟨o, S'.F.keep _ _ a, x⟩) (by omega) (by omega) (bools_at (by omega)) ?_
        with_reducible refine wpAny_truthy_bool ?_
        have hp : pays bs n c = bs.getD ((n : Int) - c).toNat false := by unfold pays; simp [hle]
        rw [hp]
        cases hb : bs.getD ((n : Int) - c).toNat false with
        | false =>
          rw [if_neg (by simp)]
          rw [if_neg (by simp)]
          exact ⟨⟨zs, hzs, by simpa using hz⟩, _, S'⟩
        | true =>
          rw [if_pos rfl]
          refine isTrue_and_nil ?_
          rw [if_pos rfl]
          with_reducible refine s_ci S' ?_
          clear S'; intro t4 s' S'
          exact ⟨⟨zs ++ [1], intsAre_snoc hzs 1 t4, by simp⟩, _, S'⟩
      · rw [if_neg (by simpa using hle)]
        rw [if_neg (by simp)]
        have hp : pays bs n c = false := by unfold pays; simp [hle]
        rw [hp]
        exact ⟨⟨zs, hzs, by simpa using hz⟩, _, S'⟩
    clear S; intro D2 ys s ⟨zs, hzs, hz⟩ hyl S
    refine s_list0 S ?_
    clear S; intro nl s S
    refine ke_ne_ints (S.lst (i := 1) rfl) (S.lst (i := 0) rfl) hzs .nil (by have := r.uni; show _ < 9900; omega) ?_
    rw [hcl, List.take_of_length_le (Nat.le_refl _)] at hz
    have hb : (!decide (zs = [])) = cf.any (pays bs n) := by
      cases ha : cf.any (pays bs n) with
      | false => simp [hz.mpr ha]
      | true =>
        have : ¬ zs = [] := fun q => by rw [hz.mp q] at ha; cases ha
        simp [this]
    rw [hb]
    refine s_appendP S 11 rfl (by simp; omega) ?_
    clear S; intro s S
    refine wpAny_execs_nil ?_
    have hsn := Tab.snoc hT c2' (by intro q; rw [q] at hn; simp at hn; omega)
    rw [hn] at hsn
    refine ⟨_, _, ⟨some (.int n tk), bs ++ [cf.any (pays bs n)], rfl, rfl, by simp; omega, hsn⟩, ?_⟩
    rw [List.map_append]
    exact S.tl.tl.tl.tl
  · clear S
    rintro vs l s ⟨tot, bs, rfl, rfl, hbl, hT⟩ S
    exact k tot bs s S hbl hT
end Mine
end

section
set_option maxRecDepth 100000
set_option maxHeartbeats 4000000
set_option linter.unusedVariables false
set_option pp.deepTerms false
set_option pp.deepTerms.threshold 4
namespace Mine
open PySem PySem.W PySem.Calls PyProof.Rows

theorem law_j {w : World} {A : Around} {Q : Flow → Shared → Prop} {h₀ : Heap} {L fa : Addr} {cd : Value} {b s : Shared} {vs : List (Option Value)} {sc ln pd tot cm : Option Value} {fv : Value} {rest : List (Addr × Assn)} {E : Value → Shared → Prop}
    (S : St h₀ L lawNs vs (cellL L sc (some fv) ln pd tot cm ++ rest) b s) (W : Wd w h₀)
    (k : ∀ s', St h₀ L lawNs vs (cellL L sc (some fv) ln pd tot (some fv) ++ rest) b s' → wpAny (model PG w) A (execs (bodyFrom 10) (lawEnv L fa cd)) Q E s') :
    wpAny (model PG w) A (execs (bodyFrom 9) (lawEnv L fa cd)) Q E s := by
  have e := lawEv L fa cd
  refine wpAny_execs_cons ?_
  refine wpAny_Assign_Name ?_
  refine ld_c S 1 rfl rfl rfl rfl ?_
  refine st_c S 5 rfl rfl rfl rfl ?_
  clear S; intro s S
  exact k s S

theorem gcds_snoc (F : Int) (cs : List Int) (c : Int) : gcds F (cs ++ [c]) = (Int.gcd (gcds F cs) c : Int) := by unfold gcds; rw [List.foldl_append]; rfl

theorem law_k {w : World} {A : Around} {Q : Flow → Shared → Prop} {h₀ : Heap} {L fa : Addr} {cd : Value} {b s : Shared} {ca : Addr} {vk v2 v3 v4 v5 v6 v7 v8 v9 v10 : Option Value} {sc fi ln pd tot : Option Value} {F : Int} {ft : Tok} {cvs : List Value} {cs : List Int} {rest : List (Addr × Assn)} {E : Value → Shared → Prop}
    (S : St h₀ L lawNs (lv vk (some (.ref ca)) v2 v3 v4 v5 v6 v7 v8 v9 v10) (cellL L sc fi ln pd tot (some (.int F ft)) ++ rest) b s) (W : Wd w h₀) (r : Rm A 40)
    (hca : (ca, AList cvs) ∈ rest) (hcs : IntsAre cvs cs) (c2 : ∀ c ∈ cs, 2 ≤ c ∧ c ≤ 15) (hF : 2 ≤ F) (hF2 : F ≤ 9)
    (k : ∀ v5 t s', St h₀ L lawNs (lv vk (some (.ref ca)) v2 v3 v4 v5 v6 v7 v8 v9 v10) (cellL L sc fi ln pd tot (some (.int (gcds F cs) t)) ++ rest) b s' → wpAny (model PG w) A (execs (bodyFrom 11) (lawEnv L fa cd)) Q E s') :
    wpAny (model PG w) A (execs (bodyFrom 10) (lawEnv L fa cd)) Q E s := by
  have e := lawEv L fa cd
  have hlen := IntsAre.length hcs
  refine wpAny_execs_cons ?_
  refine wpAny_For ?_
  refine ld_i e S 1 rfl rfl ?_
  refine s_iterList (xs := cvs) (fun i vs l => ∃ v5 t, vs = lv vk (some (.ref ca)) v2 v3 v4 v5 v6 v7 v8 v9 v10 ∧ l = cellL L sc fi ln pd tot (some (.int (gcds F (cs.take i)) t)) ++ rest)
    S r.hh ⟨v5, ft, rfl, rfl⟩ ?_ ?_ ?_
  · rintro i vs l s ⟨v5, t, rfl, rfl⟩ S
    exact S.mem (List.mem_append_right _ hca)
  · clear S
    rintro i v it It vs l s hv ⟨v5, t, rfl, rfl⟩ S
    have hi : i < cs.length := by rw [← hlen]; exact (List.getElem?_eq_some_iff.mp hv).1
    obtain ⟨tc, hx⟩ := hcs.get i cs[i] (by simp [hi])
    rw [hv] at hx
    cases hx
    have hdone : cs.take (i + 1) = cs.take i ++ [cs[i]] := by rw [List.take_add_one]; simp [hi]
    have hcc := c2 _ (List.getElem_mem hi)
    rw [hdone]
    generalize cs[i] = c at *
    have hg0 := gcds_pos F (cs.take i) (by omega)
    have hgF := Int.le_of_dvd (by omega) (gcds_dvd F (cs.take i)).1
    rw [gcds_snoc]
    generalize gcds F (cs.take i) = g at *
    refine wpAny_assign_Name (st_i e S 5 rfl ?_)
    clear S; intro s S
    refine wpAny_execs_cons ?_
    refine wpAny_Assign_Name ?_
    refine Call_ ?_
    refine ld_g e W S (.ref 1054) (by k_is) rfl ?_
    refine cw_f2 W (by k_is) ?_
    refine ld_c S 6 rfl rfl rfl rfl ?_
    refine ld_i e S 5 rfl rfl ?_
    refine ⟨W.at S, wpAny_call ?_⟩
    refine common_spec (W.at S) (r.le (by decide)) (by omega) (by omega) ?_
    intro t' s' K
    replace S := S.after K
    refine st_c S 6 rfl rfl rfl rfl ?_
    clear S; intro s S
    refine wpAny_execs_nil ?_
    exact ⟨_, _, ⟨some (.int c tc), t', rfl, rfl⟩, S⟩
  · clear S
    rintro vs l s ⟨v5, t, rfl, rfl⟩ S
    rw [hlen, List.take_length] at S
    exact k v5 t s S

theorem St.keysLe {w : World} {h₀ : Heap} {L Dd : Addr} {ns : List Str} {vs : List (Option Value)} {l : List (Addr × Assn)} {b s : Shared} {dm : MP} {F : Int} {cs : List Int} {adj : Int → List (Int × Int)} (S : St h₀ L ns vs l b s) {i : Nat} (hi : l[i]? = some (Dd, AIM w dm)) (M : LM adj dm) (G : EG F cs adj) : dm.length ≤ 9 := by
  obtain ⟨kvs, _, hv, hn, _⟩ := S.dictI hi
  rw [hv.keysM] at hn
  have f9 := G.f9
  have : dm.map (·.1) ⊆ rl 0 1 9 := fun x hx => by
    cases h : look dm x with
    | none => exact absurd hx (look_none.mp h)
    | some d =>
      obtain ⟨_, _, _, h0, h1⟩ := M.facts G h
      exact mem_rl.mpr ⟨h0, by omega⟩
  have := hn.length_le_of_subset this
  rw [List.length_map] at this
  simpa [rl] using this

theorem rl_succ (a c : Int) (n : Nat) : rl a c (n + 1) = rl a c n ++ [a + (n : Int) * c] := by unfold rl; rw [List.range_succ, List.map_append]; rfl

theorem law_l {w : World} {A : Around} {Q : Flow → Shared → Prop} {h₀ : Heap} {L fa : Addr} {cd : Value} {b s : Shared} {Dd : Addr} {vs : List (Option Value)} {sc pd tot : Option Value} {F : Int} {ft gt : Tok} {cs : List Int} {dm : MP} {adj : Int → List (Int × Int)} {rest : List (Addr × Assn)} {E : Value → Shared → Prop}
    (S : St h₀ L lawNs vs (cellL L sc (some (.int F ft)) (some (.ref Dd)) pd tot (some (.int (gcds F cs) gt)) ++ ((Dd, AIM w dm) :: rest)) b s) (W : Wd w h₀) (r : Rm A 40) (M : LM adj dm) (G : EG F cs adj)
    (k : ∀ s', St h₀ L lawNs vs (cellL L sc (some (.int F ft)) (some (.ref Dd)) pd tot (some (.int (gcds F cs) gt)) ++ ((Dd, AIM w dm) :: rest)) b s' → wpAny (model PG w) A (execs (bodyFrom 12) (lawEnv L fa cd)) Q E s') :
    wpAny (model PG w) A (execs (bodyFrom 11) (lawEnv L fa cd)) Q E s := by
  have e := lawEv L fa cd
  have f2 := G.f2
  have f9 := G.f9
  have hg0 := gcds_pos F cs (by omega)
  have hkl := S.keysLe (i := 6) rfl M G
  refine wpAny_execs_cons ?_
  with_reducible refine wpAny_If ?_
  refine wpAny_isTrue_Compare1 ?_
  refine Call_ ?_
  refine ld_b e W S (.builtin "sorted") (by k_is) rfl (by boot_by_name) (by decide) ?_
  refine cw_b1 ?_
  refine ld_c S 2 rfl rfl rfl rfl ?_
  refine s_sortedD S r.hh 6 rfl (by omega) ?_
  clear S; intro D us ys s S hI hP hSo hn
  have hys := reach_list M G hn hP hSo
  refine s_compEval (cl := _) (by rfl) (by rfl) ?_
  refine Call_ ?_
  refine ld_b e W S (.type "range") (by k_is) rfl (by boot_by_name) (by decide) ?_
  refine cw_t1 ?_
  refine ld_c S 2 rfl rfl rfl rfl ?_
  refine s_range1 S ?_
  clear S; intro rg s S
  refine it_range (n := F.toNat) S (rsmall (by decide) (by decide) (by omega) (by omega) (by decide) (by decide)) (by rw [rsize1, Int.sub_zero]) ?_
  clear S; intro I s S
  have hIf : h₀.get? I = none := (S.N.1 _ List.mem_cons_self).2.2.1
  refine s_comp (fun i ys => IntsAre ys ((rl 0 1 i).filter fun x => decide (x % gcds F cs = 0))) S (Steps.range r.hh I 0 1 F.toNat) (by omega) (by rfl) rfl rfl (fun _ _ => trivial) .nil ?_ ?_
  · rintro i v zs C h₁ hid s' hlt ⟨t, rfl⟩ hPz hlen base S' ev
    have hc1 : h₁.IsCell (L + 6) (some (.int (gcds F cs) gt)) := by
      obtain ⟨o, a, c⟩ := S.at (i := 7) rfl
      exact ⟨o, base _ _ (fun q => by have := S.ne 7 0 rfl rfl rfl; exact this q) a, c⟩
    refine ifs_one ?_
    refine wpAny_isTrue_Compare1 ?_
    refine wpAny_BinOp ?_
    refine ld_i ev S' 0 rfl rfl ?_
    refine ld_c0 S' hc1 rfl rfl rfl ?_
    with_reducible refine s_mod S' (by omega) ?_
    clear S'; intro t2 s' S'
    with_reducible refine s_ci S' ?_
    clear S'; intro t3 s' S'
    with_reducible refine eq_int ?_
    with_reducible refine wpAny_truthy_bool ?_
    rw [rl_succ, List.filter_append]
    by_cases hz : (0 + (i : Int) * 1) % gcds F cs = 0
    · rw [if_pos (by simpa using hz)]
      refine ld_i ev S' 0 rfl rfl ?_
      refine ⟨?_, _, S'⟩
      rw [List.filter_cons_of_pos (by simpa using hz)]
      exact intsAre_snoc hPz _ _
    · rw [if_neg (by simpa using hz)]
      refine ⟨?_, _, S'⟩
      rw [List.filter_cons_of_neg (by simpa using hz), List.filter_nil, List.append_nil]
      exact hPz
  clear S; intro D2 zs s hz hzl S
  obtain ⟨oD, hoD, hpD⟩ := S.at (i := 1) rfl
  refine ke_ne_ints (let ⟨a, c⟩ := apl_list _ hpD; ⟨oD, hoD, a, c⟩) (S.lst (i := 0) rfl) hI hz (by have := r.uni; show _ < 9900; omega) ?_
  with_reducible refine wpAny_truthy_bool ?_
  rw [if_neg (by rw [hys]; simp)]
  refine wpAny_execs_nil ?_
  exact k s S.tl.tl
end Mine
end

section
set_option linter.unusedVariables false
namespace Mine

theorem rl_mem {r F : Int} {n : Nat} (f2 : 2 ≤ F) (h0 : 0 ≤ r) (hr : r < F) (hn : n = ((160 - r) / F + 1).toNat) {t : Int} (h : t ∈ rl r F n) : 0 ≤ t ∧ t ≤ 160 ∧ t % F = r := by
  unfold rl at h
  obtain ⟨i, hi, rfl⟩ := List.mem_map.mp h
  have hi := List.mem_range.mp hi
  have hq : 0 ≤ (160 - r) / F ∨ (160 - r) / F < 0 := by omega
  have h1 : (i : Int) ≤ (160 - r) / F := by omega
  have h2 : (i : Int) * F ≤ (160 - r) / F * F := Int.mul_le_mul_of_nonneg_right h1 (by omega)
  have h3 := Int.ediv_mul_le (160 - r) (show F ≠ 0 by omega)
  have h4 : 0 ≤ (i : Int) * F := Int.mul_nonneg (by omega) (by omega)
  refine ⟨by omega, by omega, ?_⟩
  rw [Int.add_mul_emod_self_right, Int.emod_eq_of_lt h0 hr]

section
variable {F : Int} {cs : List Int} {adj : Int → List (Int × Int)} {dm : MP} {bs : List Bool}
theorem tab_at (M : LM adj dm) (G : EG F cs adj) (T : Tab (cs ++ [F]) bs) (hb : bs.length = 161) {t : Int} (h0 : 0 ≤ t) (h1 : t ≤ 160) : bs.getD t.toNat false = true ↔ ∃ d, look dm (t % F) = some d ∧ d ≤ t := by
  rw [List.getD_eq_getElem?_getD, List.getElem?_eq_getElem (by omega), Option.getD_some, T _ _ (List.getElem?_eq_getElem (by omega)), Int.toNat_of_nonneg h0]
  exact M.pays G h0
theorem sums_none (M : LM adj dm) (G : EG F cs adj) (T : Tab (cs ++ [F]) bs) (hb : bs.length = 161) {r : Int} (h0 : 0 ≤ r) (hr : r < F) {n : Nat} (hn : n = ((160 - r) / F + 1).toNat) (hl : look dm r = none) :
    (rl r F n).filter (fun t => bs.getD t.toNat false) = [] := by
  refine List.filter_eq_nil_iff.mpr fun t ht => ?_
  obtain ⟨a, b, c⟩ := rl_mem G.f2 h0 hr hn ht
  rw [tab_at M G T hb a b, c, hl]
  rintro ⟨d, e, _⟩; cases e
theorem sums_some (M : LM adj dm) (G : EG F cs adj) (T : Tab (cs ++ [F]) bs) (hb : bs.length = 161) {r m : Int} (h0 : 0 ≤ r) (hr : r < F) {n : Nat} (hn : n = ((160 - r) / F + 1).toNat) (hl : look dm r = some m) :
    (rl r F n).filter (fun t => bs.getD t.toNat false) = rl m F ((160 - m) / F + 1).toNat := by
  obtain ⟨_, e, p, _⟩ := M.facts G hl
  have hb2 := M.bound G hl
  rw [← sums_eq G.f2 h0 hr e.symm p (by omega), ← hn]
  refine List.filter_congr fun t ht => ?_
  obtain ⟨a, b, c⟩ := rl_mem G.f2 h0 hr hn ht
  have := tab_at M G T hb a b
  rw [c, hl] at this
  rw [Bool.eq_iff_iff, this, decide_eq_true_eq]
  constructor
  · rintro ⟨d, q, h⟩; cases q; exact h
  · intro h; exact ⟨m, rfl, h⟩
theorem path_len {n : Int} {D : Nat} (G : GOK adj n D) {ys : List Int} {v d : Int} (h : Path adj ys v d) : (ys.length : Int) ≤ d + 1 := by
  induction h with
  | zero => simp
  | snoc hp hm ih =>
    obtain ⟨a, b, c⟩ := hp.way.rng G
    have := (G.ok _ a b _ hm).2.2
    rw [List.length_append, List.length_singleton]
    simp only at this
    omega
end
end Mine
end

section
set_option maxRecDepth 100000
set_option maxHeartbeats 8000000
set_option linter.unusedVariables false
set_option pp.deepTerms false
set_option pp.deepTerms.threshold 4
namespace Mine
open PySem PySem.W PySem.Calls PyProof.Rows

theorem loadName_c {prog : Program} {w : World} {A : Around} {E : Value → Shared → Prop} {h₀ : Heap} {L : Addr} {ns : List Str} {vs : List (Option Value)} {l : List (Addr × Assn)} {b s : Shared} {env : Env} {x : Str} {v : Value} {c : Addr} {Q : Value → Shared → Prop} (S : St h₀ L ns vs l b s) (i : Nat) (hi : l[i]? = some (c, ACell (some v))) (hk : env.scope.kind = .function) (hx : env.kindOf x = some .cell) (hc : env.cells.lookup x = some c) (h : Q v s) :
    wpAny (model prog w) A (loadName env x) Q E s := by
  obtain ⟨o, ho, hp⟩ := S.at hi
  exact wpAny_loadName_cell hk hx hc ⟨o, ho, hp⟩ h

/-- the ledger of the law's last half -/
abbrev LB (w : World) (L : Addr) (sc : Option Value) (F : Int) (ft : Tok) (Dd pa : Addr) (tot cm : Option Value) (dm : MP) (bs : List Bool) (la x dx ag an aa ap : Addr) (xs : TKV) (rs : List NRec) (es psx : Int → IKV) (ds : List (Addr × Int)) (T : Option Addr) (rest : List (Addr × Assn)) : List (Addr × Assn) :=
  cellL L sc (some (.int F ft)) (some (.ref Dd)) (some (.ref pa)) tot cm ++ ((Dd, AIM w dm) :: (pa, APL (bs.map Value.bool)) :: BL w la x dx ag an aa ap xs rs es psx ds T rest)

theorem law_m {w : World} {A : Around} {Q : Flow → Shared → Prop} {h₀ : Heap} {L fa : Addr} {cd : Value} {b s : Shared} {x dx ag an aa ap la Dd pa : Addr} {vk vc v3 v5 v6 v7 v8 v9 v10 sc tot cm : Option Value} {F : Int} {ft : Tok} {cs : List Int} {rs : List NRec} {xs : TKV} {ps : List ((Int × Int) × Int)} {es psx : Int → IKV} {ds : List (Addr × Int)} {adj : Int → List (Int × Int)} {T : Option Addr} {dm : MP} {bs : List Bool} {rest : List (Addr × Assn)} {E : Value → Shared → Prop}
    (S : St h₀ L lawNs (lv vk vc (some (.ref x)) v3 (some (.ref la)) v5 v6 v7 v8 v9 v10) (LB w L sc F ft Dd pa tot cm dm bs la x dx ag an aa ap xs rs es psx ds T rest) b s) (W : Wd w h₀) (r : Rm A 40)
    (hT : TRel xs ps) (I : GI es psx ds adj) (G : EG F cs adj) (hg : ∀ u v, pget ps (u, v) = look (adj u) v) (hn : (rs.map (·.k)).Nodup) (hkm : ∀ k, 0 ≤ k → k < F → k ∈ rs.map (·.k)) (M : LM adj dm) (hbl : bs.length = 161) (hTab : Tab (cs ++ [F]) bs)
    (k : ∀ vk v3 v7 v8 tot T s', St h₀ L lawNs (lv vk vc (some (.ref x)) v3 (some (.ref la)) v5 v6 v7 v8 v9 v10) (LB w L sc F ft Dd pa tot cm dm bs la x dx ag an aa ap xs rs es psx ds T rest) b s' → wpAny (model PG w) A (execs (bodyFrom 13) (lawEnv L fa cd)) Q E s') :
    wpAny (model PG w) A (execs (bodyFrom 12) (lawEnv L fa cd)) Q E s := by
  have e := lawEv L fa cd
  have f2 := G.f2
  have f9 := G.f9
  refine wpAny_execs_cons ?_
  refine wpAny_For ?_
  refine Call_ ?_
  refine ld_b e W S (.type "range") (by k_is) rfl (by boot_by_name) (by decide) ?_
  refine cw_t1 ?_
  refine ld_c S 1 rfl rfl rfl rfl ?_
  refine s_range1 S ?_
  clear S; intro rg s S
  refine s_iterRange (n := F.toNat) (fun i vs l => ∃ vk v3 v7 v8 tot T, vs = lv vk vc (some (.ref x)) v3 (some (.ref la)) v5 v6 v7 v8 v9 v10 ∧ l = LB w L sc F ft Dd pa tot cm dm bs la x dx ag an aa ap xs rs es psx ds T rest)
    S r.hh ⟨vk, v3, v7, v8, tot, T, rfl, rfl⟩ (rsmall (by decide) (by decide) (by omega) (by omega) (by decide) (by decide)) (by rw [rsize1, Int.sub_zero]) ?_ ?_
  · clear S vk v3 v7 v8 tot T
    rintro i tk it It vs l s hi ⟨vk, v3, v7, v8, tot, T, rfl, rfl⟩ S
    rw [show (0 : Int) + (i : Int) * 1 = i by omega]
    have hr0 : (0 : Int) ≤ (i : Int) := by omega
    have hr1 : (i : Int) < F := by omega
    generalize (i : Int) = rr at *
    refine wpAny_assign_Name (st_i e S 3 rfl ?_)
    clear S; intro s S
    -- sums
    refine wpAny_execs_cons ?_
    refine s_compAssign (cl := _) (by rfl) (by rfl) (by rfl) ?_
    refine Call_ ?_
    refine ld_b e W S (.type "range") (by k_is) rfl (by boot_by_name) (by decide) ?_
    refine cw_t3 ?_
    refine ld_i e S 3 rfl rfl ?_
    with_reducible refine s_ci S ?_
    clear S; intro t1 s S
    refine ld_c S 2 rfl rfl rfl rfl ?_
    refine s_range3 S (by omega) (by omega) ?_
    clear S; intro rg2 s S
    obtain ⟨n1, hn1⟩ : ∃ n, n = ((160 - rr) / F + 1).toNat := ⟨_, rfl⟩
    have hq0 : 0 ≤ (160 - rr) / F := Int.ediv_nonneg (by omega) (by omega)
    have hq1 : (160 - rr) / F ≤ 160 := by
      have := Int.ediv_le_self F (show 0 ≤ 160 - rr by omega)
      omega
    have hsz1 : Builtin.Range.rangeSize rr 161 F = n1 := by
      rw [rsize_up (by omega) (by omega), hn1, show (161 - rr - 1 : Int) = 160 - rr by omega]; omega
    refine it_range (n := n1) S (rsmall (by omega) (by omega) (by decide) (by decide) (by omega) (by omega)) hsz1 ?_
    clear S; intro I1 s S
    refine s_compU (fun i ys => IntsAre ys ((rl rr F i).filter fun t => bs.getD t.toNat false)) S (Steps.range r.hh I1 rr F n1) (by omega) (by rfl) rfl rfl (fun _ _ => trivial) .nil ?_ ?_
    · rintro j v zs C h₁ hid s' hlt ⟨t, rfl⟩ hPz hlen base S' ev
      have hc1 : h₁.IsCell (L + 4) (some (.ref pa)) := by
        obtain ⟨o, a, c⟩ := S.at (i := 5) rfl
        exact ⟨o, base _ _ (fun q => by have := S.ne 5 0 rfl rfl rfl; exact this q) a, c⟩
      have hpa : h₁.IsList pa (bs.map Value.bool).toArray := by
        obtain ⟨o, a, c⟩ := S.at (i := 9) rfl
        exact let ⟨x, y⟩ := apl_list _ c; ⟨o, base _ _ (S.ne 9 0 rfl rfl rfl) a, x, y⟩
      have hmem : rr + (j : Int) * F ∈ rl rr F n1 := List.mem_map.mpr ⟨j, List.mem_range.mpr hlt, rfl⟩
      obtain ⟨ht0, ht1, ht2⟩ := rl_mem f2 hr0 hr1 hn1 hmem
      rw [rl_succ, List.filter_append]
      generalize rr + (j : Int) * F = tt at *
      refine ifs_one ?_
      refine isTrue_plain ?_
      with_reducible refine Subscript_ ?_
      refine ld_c0 S' hc1 rfl rfl rfl ?_
      refine ld_i ev S' 0 rfl rfl ?_
      refine s_sub_list (xs := bs.map Value.bool) (x := .bool (bs.getD tt.toNat false)) (let ⟨o, a, x⟩ := hpa; ⟨o, S'.F.keep _ _ a, x⟩) (by omega) (by omega) (bools_at (by omega)) ?_
      with_reducible refine wpAny_truthy_bool ?_
      cases hb : bs.getD tt.toNat false with
      | false =>
        rw [if_neg (by simp)]
        refine ⟨?_, _, S'⟩
        rw [List.filter_cons_of_neg (by rw [hb]; simp), List.filter_nil, List.append_nil]
        exact hPz
      | true =>
        rw [if_pos rfl]
        refine ld_i ev S' 0 rfl rfl ?_
        refine ⟨?_, _, S'⟩
        rw [List.filter_cons_of_pos (by rw [hb])]
        exact intsAre_snoc hPz _ _
    intro C D zs s hz hzl S
    refine post_store e S 7 rfl ?_
    clear S; intro s S
    -- if rest not in lengths
    refine wpAny_execs_cons ?_
    with_reducible refine wpAny_If ?_
    refine wpAny_isTrue_Compare1 ?_
    refine ld_i e S 3 rfl rfl ?_
    refine ld_c S 4 rfl rfl rfl rfl ?_
    refine s_mnotin (m := dm) S 8 rfl ?_
    clear S; intro s S
    with_reducible refine wpAny_truthy_bool ?_
    cases hl : look dm rr with
    | none =>
      rw [if_pos (by simp)]
      rw [sums_none M G hTab hbl hr0 hr1 hn1 hl] at hz
      refine wpAny_execs_cons ?_
      with_reducible refine wpAny_If ?_
      refine wpAny_isTrue_Compare1 ?_
      refine ld_i e S 7 rfl rfl ?_
      refine s_list0 S ?_
      clear S; intro nl s S
      refine ke_ne_ints (S.lst (i := 1) rfl) (S.lst (i := 0) rfl) hz .nil (by have := r.uni; show _ < 9900; omega) ?_
      with_reducible refine wpAny_truthy_bool ?_
      rw [if_neg (by simp)]
      refine wpAny_execs_nil ?_
      refine wpAny_execs_cons (wpAny_Continue ?_)
      exact ⟨_, _, ⟨vk, some (.int rr tk), some (.ref D), v8, tot, T, rfl, rfl⟩, S.tl.tl⟩
    | some m =>
      rw [if_neg (by simp)]
      rw [sums_some M G hTab hbl hr0 hr1 hn1 hl] at hz
      obtain ⟨hpm, hmr, hm0, -⟩ := M.facts G hl
      have hm1 := M.bound G hl
      refine wpAny_execs_nil ?_
      obtain ⟨n2, hn2⟩ : ∃ n, n = ((160 - m) / F + 1).toNat := ⟨_, rfl⟩
      have hp0 : 0 ≤ (160 - m) / F := Int.ediv_nonneg (by omega) (by omega)
      have hp1 : (160 - m) / F ≤ 160 := by
        have := Int.ediv_le_self F (show 0 ≤ 160 - m by omega)
        omega
      have hne := sums_nil (F := F) (r := m) (m := m) hm0 (by omega) f2
      rw [← hn2] at hz hne
      -- if sums == [] or ..
      refine wpAny_execs_cons ?_
      with_reducible refine wpAny_If ?_
      refine isTrue_or ?_
      refine wpAny_isTrue_Compare1 ?_
      refine ld_i e S 7 rfl rfl ?_
      refine s_list0 S ?_
      clear S; intro nl s S
      refine ke_eq_ints (S.lst (i := 1) rfl) (S.lst (i := 0) rfl) hz .nil (by have := r.uni; show _ < 9900; omega) ?_
      with_reducible refine wpAny_truthy_bool ?_
      rw [if_neg (by simpa using hne)]
      refine isTrue_or ?_
      refine wpAny_isTrue_Compare1 ?_
      refine ld_i e S 7 rfl rfl ?_
      refine s_compEval (cl := _) (by rfl) (by rfl) ?_
      refine Call_ ?_
      refine ld_b e W S (.type "range") (by k_is) rfl (by boot_by_name) (by decide) ?_
      refine cw_t3 ?_
      with_reducible refine Subscript_ ?_
      refine ld_c S 5 rfl rfl rfl rfl ?_
      refine ld_i e S 3 rfl rfl ?_
      refine s_mitem (m := dm) S 9 rfl hl ?_
      clear S; intro t2 s S
      with_reducible refine s_ci S ?_
      clear S; intro t3 s S
      refine ld_c S 4 rfl rfl rfl rfl ?_
      refine s_range3 S (by omega) (by omega) ?_
      clear S; intro rg3 s S
      have hsz2 : Builtin.Range.rangeSize m 161 F = n2 := by
        rw [rsize_up (by omega) (by omega), hn2, show (161 - m - 1 : Int) = 160 - m by omega]; omega
      refine it_range (n := n2) S (rsmall (by omega) (by omega) (by decide) (by decide) (by omega) (by omega)) hsz2 ?_
      clear S; intro I2 s S
      refine s_comp (fun i ys => IntsAre ys (rl m F i)) S (Steps.range r.hh I2 m F n2) (by omega) (by rfl) rfl rfl (fun _ _ => trivial) .nil ?_ ?_
      · rintro j v zs' C h₁ hid s' hlt ⟨t, rfl⟩ hPz hlen base S' ev
        refine ifs_nil ?_
        rw [if_pos rfl]
        refine ld_i ev S' 0 rfl rfl ?_
        refine ⟨?_, _, S'⟩
        rw [rl_succ]
        exact intsAre_snoc hPz _ _
      clear S; intro D2 zs2 s hz2 hzl2 S
      refine ke_ne_ints (S.lst (i := 2) rfl) (S.lst (i := 0) rfl) hz hz2 (by have := r.uni; show _ < 9900; omega) ?_
      with_reducible refine wpAny_truthy_bool ?_
      rw [if_neg (by simp)]
      refine isTrue_or ?_
      refine wpAny_isTrue_Compare1 ?_
      refine wpAny_BinOp ?_
      with_reducible refine Subscript_ ?_
      refine ld_c S 6 rfl rfl rfl rfl ?_
      refine ld_i e S 3 rfl rfl ?_
      refine s_mitem (m := dm) S 10 rfl hl ?_
      clear S; intro t4 s S
      refine ld_c S 5 rfl rfl rfl rfl ?_
      with_reducible refine s_mod S (by omega) ?_
      clear S; intro t5 s S
      refine ld_i e S 3 rfl rfl ?_
      with_reducible refine ne_int ?_
      with_reducible refine wpAny_truthy_bool ?_
      rw [if_neg (by rw [← hmr]; simp)]
      refine isTrue_or_nil ?_
      rw [if_neg (by simp)]
      refine wpAny_execs_nil ?_
      replace S : St h₀ L lawNs (lv vk vc (some (.ref x)) (some (.int rr tk)) (some (.ref la)) v5 v6 (some (.ref D)) v8 v9 v10) ((it, It) :: LB w L sc F ft Dd pa tot cm dm bs la x dx ag an aa ap xs rs es psx ds T rest) b s := S.tl.tl.tl
      refine wpAny_execs_cons ?_
      refine wpAny_Assign_Name ?_
      refine Call_ ?_
      refine ld_g e W S (.ref 137) (by k_is) rfl ?_
      refine cw_f3 W (by k_is) ?_
      refine ld_i e S 2 rfl rfl ?_
      with_reducible refine s_ci S ?_
      clear S; intro t6 s S
      refine ld_i e S 3 rfl rfl ?_
      refine ⟨W.at S, wpAny_call ?_⟩
      have S1 := S.perm (BL.toTab ((it, It) :: (cellL L sc (some (.int F ft)) (some (.ref Dd)) (some (.ref pa)) tot cm ++ [(Dd, AIM w dm), (pa, APL (bs.map Value.bool))])))
      clear S
      refine path_spec T S1 W (r.le (by decide)) (S1.grAt I hn hkm) G.gok (by omega) (by omega) ⟨m, (M.least _ _ hl).1⟩ ?_
      intro ya ys d T' s S hP hL
      clear S1
      have hd : d = m := by
        have h1 := hL.2 _ (M.least _ _ hl).1
        have h2 := (M.least _ _ hl).2 _ hL.1
        omega
      subst hd
      obtain ⟨hy0, ⟨pre, hyl⟩, hyk, hys⟩ := path_law G.nd hg hP
      have hylen := path_len G.gok hP
      rw [List.append_assoc] at S
      replace S : St h₀ L lawNs (lv vk vc (some (.ref x)) (some (.int rr tk)) (some (.ref la)) v5 v6 (some (.ref D)) v8 v9 v10) ((ya, AIntL ys) :: (it, It) :: LB w L sc F ft Dd pa tot cm dm bs la x dx ag an aa ap xs rs es psx ds T' rest) b s := S.perm (.cons _ (BL.toTab ((it, It) :: (cellL L sc (some (.int F ft)) (some (.ref Dd)) (some (.ref pa)) tot cm ++ [(Dd, AIM w dm), (pa, APL (bs.map Value.bool))]))).symm)
      refine st_i e S 8 rfl ?_
      clear S; intro s S
      refine wpAny_execs_cons ?_
      refine wpAny_Assign_Name ?_
      with_reducible refine s_ci S ?_
      clear S; intro t7 s S
      refine st_c S 6 rfl rfl rfl rfl ?_
      clear S; intro s S
      refine wpAny_execs_cons ?_
      refine wpAny_For ?_
      refine Call_ ?_
      refine ld_b e W S (.type "range") (by k_is) rfl (by boot_by_name) (by decide) ?_
      refine cw_t1 ?_
      refine wpAny_BinOp ?_
      refine Call_ ?_
      refine ld_b e W S (.builtin "len") (by k_is) rfl (by boot_by_name) (by decide) ?_
      refine cw_b1 ?_
      refine ld_i e S 8 rfl rfl ?_
      obtain ⟨us, hus, hUI, hUl, -⟩ := S.intl (i := 0) rfl
      refine s_len_list S hus (by omega) ?_
      clear S hus hUI; intro t8 s S
      with_reducible refine s_ci S ?_
      clear S; intro t9 s S
      with_reducible refine s_sub S ?_
      clear S; intro t10 s S
      refine s_range1 S ?_
      clear S; intro rg4 s S
      have hlp : 1 ≤ ys.length := by rw [hyl]; simp
      refine s_iterRange (n := ys.length - 1) (fun j vs l => ∃ vk t, vs = lv vk vc (some (.ref x)) (some (.int rr tk)) (some (.ref la)) v5 v6 (some (.ref D)) (some (.ref ya)) v9 v10 ∧ l = (ya, AIntL ys) :: (it, It) :: LB w L sc F ft Dd pa (some (.int (stps ps ys j) t)) cm dm bs la x dx ag an aa ap xs rs es psx ds T' rest)
        S r.hh ⟨vk, t7, rfl, rfl⟩ (rsmall (by decide) (by decide) (by omega) (by omega) (by decide) (by decide)) (by rw [rsize1]; omega) ?_ ?_
      · clear S
        rintro j tk2 it2 It2 vs l s hj ⟨vk, t, rfl, rfl⟩ S
        rw [show (0 : Int) + (j : Int) * 1 = j by omega]
        refine wpAny_assign_Name (st_i e S 0 rfl ?_)
        clear S; intro s S
        obtain ⟨c, hc⟩ := hyk j (by omega)
        have hstep : stps ps ys (j + 1) = stps ps ys j + c := by
          show stps ps ys j + stp ps ys j = _
          unfold stp; rw [hc]; rfl
        rw [hstep]
        have ha : ys[j]? = some (ys.getD j 0) := by rw [List.getD_eq_getElem?_getD, List.getElem?_eq_getElem (by omega)]; rfl
        have hb : ys[j + 1]? = some (ys.getD (j + 1) 0) := by rw [List.getD_eq_getElem?_getD, List.getElem?_eq_getElem (by omega)]; rfl
        generalize ys.getD j 0 = y0 at *
        generalize ys.getD (j + 1) 0 = y1 at *
        refine wpAny_execs_cons ?_
        with_reducible refine wpAny_If ?_
        refine wpAny_isTrue_Compare1 ?_
        refine s_tuple2 ?_ rfl rfl
        with_reducible refine Subscript_ ?_
        refine ld_i e S 8 rfl rfl ?_
        refine ld_i e S 0 rfl rfl ?_
        refine s_nth (xs := ys) (x := y0) S 1 rfl (by omega) (by omega) (by simpa using ha) ?_
        intro t11
        with_reducible refine Subscript_ ?_
        refine ld_i e S 8 rfl rfl ?_
        refine wpAny_BinOp ?_
        refine ld_i e S 0 rfl rfl ?_
        with_reducible refine s_ci S ?_
        clear S; intro t12 s S
        with_reducible refine s_add S ?_
        clear S; intro t13 s S
        refine s_nth (xs := ys) (x := y1) S 1 rfl (by omega) (by omega) (by rw [show ((j : Int) + 1).toNat = j + 1 by omega]; exact hb) ?_
        intro t14
        with_reducible refine s_newTuple S rfl ?_
        clear S; intro ta s S
        replace S := S.mono (i := 0) (P' := AKey w [y0, y1]) rfl AKey.made
        refine ld_i e S 4 rfl rfl ?_
        refine s_tnotin S (r.le (by decide)) hT (by simp) (fun p hp => by simp [hp]) List.mem_cons_self ?_
        clear S; intro s S
        with_reducible refine wpAny_truthy_bool ?_
        have hc' : pget ps (y0, y1) = some c := hc
        rw [if_neg (by rw [hc']; simp)]
        refine wpAny_execs_nil ?_
        refine wpAny_execs_cons ?_
        refine wpAny_AugAssign_Name ?_
        refine loadName_c S 8 rfl rfl rfl rfl ?_
        with_reducible refine Subscript_ ?_
        refine ld_i e S 4 rfl rfl ?_
        refine s_tuple2 ?_ rfl rfl
        with_reducible refine Subscript_ ?_
        refine ld_i e S 8 rfl rfl ?_
        refine ld_i e S 0 rfl rfl ?_
        refine s_nth (xs := ys) (x := y0) S 2 rfl (by omega) (by omega) (by simpa using ha) ?_
        intro t15
        with_reducible refine Subscript_ ?_
        refine ld_i e S 8 rfl rfl ?_
        refine wpAny_BinOp ?_
        refine ld_i e S 0 rfl rfl ?_
        with_reducible refine s_ci S ?_
        clear S; intro t16 s S
        with_reducible refine s_add S ?_
        clear S; intro t17 s S
        refine s_nth (xs := ys) (x := y1) S 2 rfl (by omega) (by omega) (by rw [show ((j : Int) + 1).toNat = j + 1 by omega]; exact hb) ?_
        intro t18
        with_reducible refine s_newTuple S rfl ?_
        clear S; intro tb s S
        replace S := S.mono (i := 0) (P' := AKey w [y0, y1]) rfl AKey.made
        refine s_titem S (r.le (by decide)) hT (by simp) (fun p hp => by simp [hp]) List.mem_cons_self hc' ?_
        clear S; intro t19 s S
        with_reducible refine s_iadd S ?_
        clear S; intro t20 s S
        refine st_c S 9 rfl rfl rfl rfl ?_
        clear S; intro s S
        refine wpAny_execs_nil ?_
        exact ⟨_, _, ⟨some (.int j tk2), t20, rfl, rfl⟩, S.tl.tl⟩
      clear S
      rintro vs l s ⟨vk, t, rfl, rfl⟩ S
      rw [hys] at S
      refine wpAny_execs_cons ?_
      with_reducible refine wpAny_If ?_
      refine isTrue_or ?_
      refine wpAny_isTrue_Compare1 ?_
      with_reducible refine Subscript_ ?_
      refine ld_i e S 8 rfl rfl ?_
      with_reducible refine s_ci S ?_
      clear S; intro t21 s S
      refine s_nth (xs := ys) (x := 0) S 0 rfl (by decide) (by decide) hy0 ?_
      intro t22
      with_reducible refine s_ci S ?_
      clear S; intro t23 s S
      with_reducible refine ne_int ?_
      with_reducible refine wpAny_truthy_bool ?_
      rw [if_neg (by decide)]
      refine isTrue_or ?_
      refine wpAny_isTrue_Compare1 ?_
      with_reducible refine Subscript_ ?_
      refine ld_i e S 8 rfl rfl ?_
      with_reducible refine wpAny_UnaryOp ?_
      with_reducible refine s_ci S ?_
      clear S; intro t24 s S
      with_reducible refine neg_int ?_
      replace S := S.tok (s.toks + 1)
      refine s_last (xs := ys) (x := rr) S 0 rfl (by rw [hyl]; simp) ?_
      intro t25
      refine ld_i e S 3 rfl rfl ?_
      with_reducible refine ne_int ?_
      with_reducible refine wpAny_truthy_bool ?_
      rw [if_neg (by simp)]
      refine isTrue_or ?_
      refine wpAny_isTrue_Compare1 ?_
      refine ld_c S 6 rfl rfl rfl rfl ?_
      with_reducible refine Subscript_ ?_
      refine ld_c S 4 rfl rfl rfl rfl ?_
      refine ld_i e S 3 rfl rfl ?_
      refine s_mitem (m := dm) S 8 rfl hl ?_
      clear S; intro t26 s S
      with_reducible refine ne_int ?_
      with_reducible refine wpAny_truthy_bool ?_
      rw [if_neg (by simp)]
      refine isTrue_or_nil ?_
      rw [if_neg (by simp)]
      refine wpAny_execs_nil ?_
      refine wpAny_execs_nil ?_
      exact ⟨_, _, ⟨vk, some (.int rr tk), some (.ref D), some (.ref ya), some (.int d t), T', rfl, rfl⟩, S.tl⟩
  · clear S vk v3 v7 v8 tot T
    rintro vs l s ⟨vk, v3, v7, v8, tot, T, rfl, rfl⟩ S
    exact k vk v3 v7 v8 tot T s S
end Mine
end

section
set_option maxRecDepth 100000
set_option maxHeartbeats 8000000
set_option linter.unusedVariables false
set_option pp.deepTerms false
set_option pp.deepTerms.threshold 4
namespace Mine
open PySem PySem.W PySem.Calls PyProof.Rows

theorem law_n {w : World} {A : Around} {Q : Flow → Shared → Prop} {h₀ : Heap} {L fa : Addr} {cd : Value} {b s : Shared} {vs : List (Option Value)} {sc fi ln pd tot : Option Value} {F : Int} {gt : Tok} {cs : List Int} {rest : List (Addr × Assn)} {E : Value → Shared → Prop}
    (S : St h₀ L lawNs vs (cellL L sc fi ln pd tot (some (.int (gcds F cs) gt)) ++ rest) b s) (W : Wd w h₀) (hF : 2 ≤ F)
    (k1 : ∀ s', St h₀ L lawNs vs (cellL L sc fi ln pd tot (some (.int (gcds F cs) gt)) ++ rest) b s' → Q (.ret (.bool true)) s')
    (k2 : ∀ s', gcds F cs = 1 → St h₀ L lawNs vs (cellL L sc fi ln pd tot (some (.int (gcds F cs) gt)) ++ rest) b s' → wpAny (model PG w) A (execs (bodyFrom 14) (lawEnv L fa cd)) Q E s') :
    wpAny (model PG w) A (execs (bodyFrom 13) (lawEnv L fa cd)) Q E s := by
  have e := lawEv L fa cd
  have hg0 := gcds_pos F cs (by omega)
  refine wpAny_execs_cons ?_
  with_reducible refine wpAny_If ?_
  refine wpAny_isTrue_Compare1 ?_
  refine ld_c S 5 rfl rfl rfl rfl ?_
  with_reducible refine s_ci S ?_
  clear S; intro t1 s S
  with_reducible refine gt_int ?_
  with_reducible refine wpAny_truthy_bool ?_
  by_cases h : 1 < gcds F cs
  · rw [if_pos (by simpa using h)]
    refine wpAny_execs_cons (wpAny_Return_some ?_)
    refine wpAny_Constant_bool ?_
    exact k1 s S
  · rw [if_neg (by simpa using h)]
    refine wpAny_execs_nil ?_
    exact k2 s (by omega) S

theorem law_o {w : World} {A : Around} {Q : Flow → Shared → Prop} {h₀ : Heap} {L fa : Addr} {cd : Value} {b s : Shared} {pa Dd : Addr} {vk vc v2 v3 v4 v5 v6 v7 v8 v9 v10 sc fi ln tot cm : Option Value} {bs : List Bool} {P : Assn} {rest : List (Addr × Assn)} {E : Value → Shared → Prop}
    (S : St h₀ L lawNs (lv vk vc v2 v3 v4 v5 v6 v7 v8 v9 v10) (cellL L sc fi ln (some (.ref pa)) tot cm ++ ((Dd, P) :: (pa, APL (bs.map Value.bool)) :: rest)) b s) (W : Wd w h₀) (hbl : bs.length = 161)
    (r : Rm A 40)
    (k : ∀ ga zs s', IntsAre zs (gapsOf bs) → St h₀ L lawNs (lv vk vc v2 v3 v4 v5 v6 v7 v8 (some (.ref ga)) v10) ((ga, AList zs) :: (cellL L sc fi ln (some (.ref pa)) tot cm ++ ((Dd, P) :: (pa, APL (bs.map Value.bool)) :: rest))) b s' → wpAny (model PG w) A (execs (bodyFrom 15) (lawEnv L fa cd)) Q E s') :
    wpAny (model PG w) A (execs (bodyFrom 14) (lawEnv L fa cd)) Q E s := by
  have e := lawEv L fa cd
  refine wpAny_execs_cons ?_
  refine s_compAssign (cl := _) (by rfl) (by rfl) (by rfl) ?_
  refine Call_ ?_
  refine ld_b e W S (.type "range") (by k_is) rfl (by boot_by_name) (by decide) ?_
  refine cw_t1 ?_
  with_reducible refine s_ci S ?_
  clear S; intro t1 s S
  refine s_range1 S ?_
  clear S; intro rg s S
  refine it_range (n := 161) S (rsmall (by decide) (by decide) (by decide) (by decide) (by decide) (by decide)) (by rw [rsize1]; decide) ?_
  clear S; intro I s S
  refine s_compU (fun i ys => IntsAre ys ((rl 0 1 i).filter fun t => !bs.getD t.toNat false)) S (Steps.range r.hh I 0 1 161) (by decide) (by rfl) rfl rfl (fun _ _ => trivial) .nil ?_ ?_
  · rintro j v zs C h₁ hid s' hlt ⟨t, rfl⟩ hPz hlen base S' ev
    have hc1 : h₁.IsCell (L + 4) (some (.ref pa)) := by
      obtain ⟨o, a, c⟩ := S.at (i := 4) rfl
      exact ⟨o, base _ _ (fun q => by have := S.ne 4 0 rfl rfl rfl; exact this q) a, c⟩
    have hpa : h₁.IsList pa (bs.map Value.bool).toArray := by
      obtain ⟨o, a, c⟩ := S.at (i := 8) rfl
      exact let ⟨x, y⟩ := apl_list _ c; ⟨o, base _ _ (S.ne 8 0 rfl rfl rfl) a, x, y⟩
    rw [rl_succ, List.filter_append]
    have ht0 : 0 ≤ (0 : Int) + (j : Int) * 1 := by omega
    have ht1 : (0 : Int) + (j : Int) * 1 ≤ 160 := by omega
    generalize (0 : Int) + (j : Int) * 1 = tt at *
    refine ifs_one ?_
    refine isTrue_not ?_
    refine isTrue_plain ?_
    with_reducible refine Subscript_ ?_
    refine ld_c0 S' hc1 rfl rfl rfl ?_
    refine ld_i ev S' 0 rfl rfl ?_
    refine s_sub_list (xs := bs.map Value.bool) (x := .bool (bs.getD tt.toNat false)) (let ⟨o, a, x⟩ := hpa; ⟨o, S'.F.keep _ _ a, x⟩) (by omega) (by omega) (bools_at (by omega)) ?_
    with_reducible refine wpAny_truthy_bool ?_
    cases hb : bs.getD tt.toNat false with
    | true =>
      rw [if_neg (by simp)]
      refine ⟨?_, _, S'⟩
      rw [List.filter_cons_of_neg (by rw [hb]; simp), List.filter_nil, List.append_nil]
      exact hPz
    | false =>
      rw [if_pos (by simp)]
      refine ld_i ev S' 0 rfl rfl ?_
      refine ⟨?_, _, S'⟩
      rw [List.filter_cons_of_pos (by rw [hb]; rfl)]
      exact intsAre_snoc hPz _ _
  · intro C D ys s' hP _ S'
    refine post_store e S' 9 rfl ?_
    clear S'; intro s2 S'
    exact k D ys s2 hP S'

theorem law_p {w : World} {A : Around} {Q : Flow → Shared → Prop} {h₀ : Heap} {L fa : Addr} {cd : Value} {b s : Shared} {vk vc v2 v3 v4 v5 v6 v7 v8 v9 v10 : Option Value} {rest : List (Addr × Assn)} {E : Value → Shared → Prop}
    (S : St h₀ L lawNs (lv vk vc v2 v3 v4 v5 v6 v7 v8 v9 v10) rest b s)
    (k : ∀ t s', St h₀ L lawNs (lv vk vc v2 v3 v4 v5 v6 v7 v8 v9 (some (.int 0 t))) rest b s' → wpAny (model PG w) A (execs (bodyFrom 16) (lawEnv L fa cd)) Q E s') :
    wpAny (model PG w) A (execs (bodyFrom 15) (lawEnv L fa cd)) Q E s := by
  have e := lawEv L fa cd
  refine wpAny_execs_cons ?_
  refine wpAny_Assign_Name ?_
  with_reducible refine s_ci S ?_
  clear S; intro t1 s S
  refine st_i e S 10 rfl ?_
  clear S; intro s S
  exact k t1 s S

theorem law_q {w : World} {A : Around} {Q : Flow → Shared → Prop} {h₀ : Heap} {L fa : Addr} {cd : Value} {b s : Shared} {Dd : Addr} {vk vc v2 v3 v4 v5 v6 v7 v8 v9 sc pd tot cm : Option Value} {F : Int} {ft t0 : Tok} {dm : MP} {m : Int → Int} {rest : List (Addr × Assn)} {E : Value → Shared → Prop}
    (S : St h₀ L lawNs (lv vk vc v2 v3 v4 v5 v6 v7 v8 v9 (some (.int 0 t0))) (cellL L sc (some (.int F ft)) (some (.ref Dd)) pd tot cm ++ ((Dd, AIM w dm) :: rest)) b s) (W : Wd w h₀) (r : Rm A 40) (hF : 2 ≤ F) (hF2 : F ≤ 9)
    (hm : ∀ r, 0 ≤ r → r < F → look dm r = some (m r))
    (k : ∀ v3 t s', St h₀ L lawNs (lv vk vc v2 v3 v4 v5 v6 v7 v8 v9 (some (.int ((rl 0 1 F.toNat).map fun r => m r / F).sum t))) (cellL L sc (some (.int F ft)) (some (.ref Dd)) pd tot cm ++ ((Dd, AIM w dm) :: rest)) b s' → wpAny (model PG w) A (execs (bodyFrom 17) (lawEnv L fa cd)) Q E s') :
    wpAny (model PG w) A (execs (bodyFrom 16) (lawEnv L fa cd)) Q E s := by
  have e := lawEv L fa cd
  refine wpAny_execs_cons ?_
  refine wpAny_For ?_
  refine Call_ ?_
  refine ld_b e W S (.type "range") (by k_is) rfl (by boot_by_name) (by decide) ?_
  refine cw_t1 ?_
  refine ld_c S 1 rfl rfl rfl rfl ?_
  refine s_range1 S ?_
  clear S; intro rg s S
  refine s_iterRange (n := F.toNat) (fun i vs l => ∃ v3 t, vs = lv vk vc v2 v3 v4 v5 v6 v7 v8 v9 (some (.int ((rl 0 1 i).map fun r => m r / F).sum t)) ∧ l = cellL L sc (some (.int F ft)) (some (.ref Dd)) pd tot cm ++ ((Dd, AIM w dm) :: rest))
    S r.hh ⟨v3, t0, rfl, rfl⟩ (rsmall (by decide) (by decide) (by omega) (by omega) (by decide) (by decide)) (by rw [rsize1, Int.sub_zero]) ?_ ?_
  · clear S v3 t0
    rintro i tk it It vs l s hi ⟨v3, t, rfl, rfl⟩ S
    rw [rl_succ, List.map_append, List.sum_append_int]
    have h0 : 0 ≤ (0 : Int) + (i : Int) * 1 := by omega
    have h1 : (0 : Int) + (i : Int) * 1 < F := by omega
    generalize (0 : Int) + (i : Int) * 1 = rr at *
    refine wpAny_assign_Name (st_i e S 3 rfl ?_)
    clear S; intro s S
    refine wpAny_execs_cons ?_
    refine wpAny_AugAssign_Name ?_
    refine loadName_i e S 10 rfl rfl ?_
    refine wpAny_BinOp ?_
    with_reducible refine Subscript_ ?_
    refine ld_c S 3 rfl rfl rfl rfl ?_
    refine ld_i e S 3 rfl rfl ?_
    refine s_mitem (m := dm) S 7 rfl (hm rr h0 h1) ?_
    clear S; intro t2 s S
    refine ld_c S 2 rfl rfl rfl rfl ?_
    with_reducible refine s_fdiv S (by omega) (by omega) ?_
    clear S; intro t3 s S
    with_reducible refine s_iadd S ?_
    clear S; intro t4 s S
    refine st_i e S 10 rfl ?_
    clear S; intro s S
    refine wpAny_execs_nil ?_
    refine ⟨_, _, ⟨some (.int rr tk), t4, ?_, rfl⟩, S⟩
    simp [lv]
  · clear S v3 t0
    rintro vs l s ⟨v3, t, rfl, rfl⟩ S
    exact k v3 t s S

theorem law_r {w : World} {A : Around} {Q : Flow → Shared → Prop} {h₀ : Heap} {L fa : Addr} {cd : Value} {b s : Shared} {ga Dd : Addr} {vk vc v2 v3 v4 v5 v6 v7 v8 sc pd tot cm : Option Value} {F N last : Int} {ft tn : Tok} {dm : MP} {m : Int → Int} {zs : List Value} {gs pre : List Int} {rest : List (Addr × Assn)} {E : Value → Shared → Prop}
    (S : St h₀ L lawNs (lv vk vc v2 v3 v4 v5 v6 v7 v8 (some (.ref ga)) (some (.int N tn))) (cellL L sc (some (.int F ft)) (some (.ref Dd)) pd tot cm ++ ((Dd, AIM w dm) :: (ga, AList zs) :: rest)) b s) (W : Wd w h₀) (r : Rm A 40) (hF : 2 ≤ F) (hF2 : F ≤ 9)
    (hm : ∀ r, 0 ≤ r → r < F → look dm r = some (m r)) (hz : IntsAre zs gs) (h1 : gs = pre ++ [last]) (h2 : (gs.length : Int) = N) (h3 : ∀ r, 0 ≤ r → r < F → m r ≤ last + F) (h4 : ∃ r, 0 ≤ r ∧ r < F ∧ m r = last + F) (hgl : gs.length ≤ 1000)
    (k : ∀ vs l s', St h₀ L lawNs vs l b s' → (∀ p ∈ rest, p ∈ l) → Q (.ret (.bool true)) s') :
    wpAny (model PG w) A (execs (bodyFrom 17) (lawEnv L fa cd)) Q E s := by
  have e := lawEv L fa cd
  have hzl := IntsAre.length hz
  refine wpAny_execs_cons (wpAny_Return_some ?_)
  refine BoolOp_and ?_
  refine wpAny_Compare1 ?_
  refine ld_i e S 9 rfl rfl ?_
  refine s_list0 S ?_
  clear S; intro nl s S
  refine ke_ne_ints (S.lst (i := 8) rfl) (S.lst (i := 0) rfl) hz .nil (by have := r.uni; show _ < 9900; omega) ?_
  rw [show (!decide (gs = [])) = true by rw [h1]; simp]
  with_reducible refine wpAny_truthy_bool ?_
  rw [if_pos rfl]
  refine BoolOp_and ?_
  refine wpAny_Compare1 ?_
  with_reducible refine Subscript_ ?_
  refine ld_i e S 9 rfl rfl ?_
  with_reducible refine wpAny_UnaryOp ?_
  with_reducible refine s_ci S ?_
  clear S; intro t1 s S
  with_reducible refine neg_int ?_
  replace S := S.tok (s.toks + 1)
  have hlast : ∃ t, zs[zs.length - 1]? = some (.int last t) := hz.get _ _ (by rw [hzl, h1]; simp)
  obtain ⟨tl, hlast⟩ := hlast
  have hzp : 0 < zs.length := by rw [hzl, h1]; simp
  refine tail_any (S.lst (i := 8) (a := ga) (xs := zs) rfl).typeIs slot_list_getitem.lookup (wpAny_getItem_list_neg (S.lst (i := 8) (a := ga) (xs := zs) rfl) (by omega) (by simp; omega) (by decide) (by simp; rw [show (-1 + (zs.length : Int)).toNat = zs.length - 1 by omega]; exact hlast) ?_) (by with_unfolding_all rfl)
  refine wpAny_BinOp ?_
  refine Call_ ?_
  refine ld_b e W S (.builtin "max") (by k_is) rfl (by boot_by_name) (by decide) ?_
  refine cw_b1 ?_
  refine s_compEval (cl := _) (by rfl) (by rfl) ?_
  refine Call_ ?_
  refine ld_b e W S (.type "range") (by k_is) rfl (by boot_by_name) (by decide) ?_
  refine cw_t1 ?_
  refine ld_c S 2 rfl rfl rfl rfl ?_
  refine s_range1 S ?_
  clear S; intro rg s S
  refine it_range (n := F.toNat) S (rsmall (by decide) (by decide) (by omega) (by omega) (by decide) (by decide)) (by rw [rsize1, Int.sub_zero]) ?_
  clear S; intro I s S
  refine s_comp (fun i ys => IntsAre ys ((rl 0 1 i).map m)) S (Steps.range r.hh I 0 1 F.toNat) (by omega) (by rfl) rfl rfl (fun _ _ => trivial) .nil ?_ ?_
  · rintro j v ys C h₁ hid s' hlt ⟨t, rfl⟩ hPz hlen base S' ev
    have hc1 : h₁.IsCell (L + 3) (some (.ref Dd)) := by
      obtain ⟨o, a, c⟩ := S.at (i := 4) rfl
      exact ⟨o, base _ _ (fun q => by have := S.ne 4 0 rfl rfl rfl; exact this q) a, c⟩
    have hlow := S.lo (i := 8) (a := Dd) (P := AIM w dm) rfl
    obtain ⟨kvs, hd, hv, hn, -⟩ := S.dictI (i := 8) (a := Dd) (m := dm) rfl
    have hne := S.ne 8 0 (a := Dd) (P := AIM w dm) rfl rfl rfl
    rw [rl_succ, List.map_append]
    have ht0 : 0 ≤ (0 : Int) + (j : Int) * 1 := by omega
    have ht1 : (0 : Int) + (j : Int) * 1 < F := by omega
    generalize (0 : Int) + (j : Int) * 1 = rr at *
    refine ifs_nil ?_
    rw [if_pos rfl]
    with_reducible refine Subscript_ ?_
    refine ld_c0 S' hc1 rfl rfl rfl ?_
    refine ld_i ev S' 0 rfl rfl ?_
    obtain ⟨u, hu⟩ := hv.some (hm rr ht0 ht1)
    have hd' : s'.heap.DictOf (IK w) Dd kvs := by
      obtain ⟨o, ho, q⟩ := Heap.dictOf_iff.mp hd
      exact Heap.dictOf_iff.mpr ⟨o, S'.F.keep _ _ (base _ _ hne ho), q⟩
    refine s_ditemT S' hd' (ik_is w rr t) hu ?_
    clear S'; intro s' S'
    exact ⟨intsAre_snoc hPz _ _, _, S'⟩
  clear S; intro D2 us s hus hul S
  refine s_max S r.hh (S.lst (i := 0) rfl) hus (by simp [rl]; omega) ?_
  clear S; intro Mx t2 s S hM1 hM2
  have hMx : Mx = last + F := by
    obtain ⟨r1, a1, a2, a3⟩ := h4
    obtain ⟨r2, b1, b2⟩ := List.mem_map.mp hM1
    have c1 := hM2 (m r1) (List.mem_map_of_mem (mem_rl.mpr ⟨a1, by omega⟩))
    have c2 := mem_rl.mp b1
    have c3 := h3 r2 c2.1 (by omega)
    omega
  subst hMx
  refine ld_c S 3 rfl rfl rfl rfl ?_
  with_reducible refine s_sub S ?_
  clear S; intro t3 s S
  with_reducible refine eq_int ?_
  rw [show (last == last + F - F) = true by rw [Int.add_sub_cancel]; simp]
  with_reducible refine wpAny_truthy_bool ?_
  rw [if_pos rfl]
  refine BoolOp_one ?_
  refine wpAny_Compare1 ?_
  refine Call_ ?_
  refine ld_b e W S (.builtin "len") (by k_is) rfl (by boot_by_name) (by decide) ?_
  refine cw_b1 ?_
  refine ld_i e S 9 rfl rfl ?_
  refine s_len_list S (S.lst (i := 9) rfl) (by omega) ?_
  clear S; intro t4 s S
  refine ld_i e S 10 rfl rfl ?_
  with_reducible refine eq_int ?_
  rw [show ((zs.length : Int) == N) = true by rw [hzl, h2]; simp]
  exact k _ _ s S (fun p hp => by simp [hp])
end Mine
end

section
set_option maxRecDepth 100000
set_option maxHeartbeats 8000000
set_option linter.unusedVariables false
set_option pp.deepTerms false
set_option pp.deepTerms.threshold 4
namespace Mine
open PySem PySem.W PySem.Calls PyProof.Rows

theorem coinsOf_len (ms : List Int) : (coinsOf ms).length ≤ 3 := by
  unfold coinsOf
  rw [List.length_map, List.length_range]
  have := Int.emod_lt_of_pos (ms.getD 1 1) (show (0 : Int) < 3 by decide)
  omega
theorem coinsOf_bounds (ms : List Int) : ∀ c ∈ coinsOf ms, 2 ≤ c ∧ c ≤ 15 := by
  intro c hc
  obtain ⟨i, _, rfl⟩ := List.mem_map.mp hc
  unfold coinAt
  have h0 := Int.emod_nonneg (ms.getD (2 + i) (([3, 7, 10] : List Int).getD i 0)) (show (14 : Int) ≠ 0 by decide)
  have h1 := Int.emod_lt_of_pos (ms.getD (2 + i) (([3, 7, 10] : List Int).getD i 0)) (show (0 : Int) < 14 by decide)
  omega

theorem law_body {w : World} {A : Around} {Q : Flow → Shared → Prop} {h₀ : Heap} {L fa : Addr} {cd : Value} {b s : Shared} {sa : Addr} {xs : List Value} {ms : List Int} {R : List (Addr × Assn)} {E : Value → Shared → Prop}
    (S : St h₀ L lawNs [none, none, none, none, none, none, none, none, none, none, none] (cellL L (some (.ref sa)) none none none none none ++ (tabW none ++ R)) b s) (W : Wd w h₀) (r : Rm A 40) (hl : h₀.IsList sa xs.toArray) (hi : IntsAre xs ms) (hz : ms.length ≤ 1000)
    (k : ∀ vs l T s', St h₀ L lawNs vs l b s' → (∀ p ∈ tabW T ++ R, p ∈ l) → Q (.ret (.bool true)) s') :
    wpAny (model PG w) A (execs lawRec.body (lawEnv L fa cd)) Q E s := by
  have hF : 2 ≤ 2 + ms.getD 0 5 % 8 := by have := Int.emod_nonneg (ms.getD 0 5) (show (8 : Int) ≠ 0 by decide); omega
  have hF2 : 2 + ms.getD 0 5 % 8 ≤ 9 := by have := Int.emod_lt_of_pos (ms.getD 0 5) (show (0 : Int) < 8 by decide); omega
  refine law_a S W r hl hi hz ?_
  clear S; intro ft s S
  generalize 2 + ms.getD 0 5 % 8 = F at *
  refine law_b S W r hl hi hz ?_
  clear S; intro ca cvs s hcs S
  have hcz := coinsOf_len ms
  have c2 := coinsOf_bounds ms
  generalize coinsOf ms = cs at *
  refine law_c S W r ?_
  clear S; intro x dx ag an aa ap s S
  have S1 := S.perm (l' := cellL L (some (.ref sa)) (some (.int F ft)) none none none none ++ (newG w x dx ag an aa ap ++ (tabW none ++ ((ca, AList cvs) :: R)))) (by
    generalize cellL L (some (.ref sa)) (some (.int F ft)) none none none none = C
    generalize newG w x dx ag an aa ap = N
    refine List.Perm.trans (List.perm_append_comm_assoc _ _ _) ?_
    refine List.Perm.append_left _ ?_
    refine List.Perm.trans (List.Perm.append_left _ List.perm_middle) ?_
    exact List.perm_middle)
  clear S
  refine law_d S1 W r hl hi hz hF hF2 ?_
  clear S1; intro rs s hrs S
  have hn : (rs.map (·.k)).Nodup := by rw [hrs]; exact nodesOf_nodup hF hF2
  have hkm : ∀ k, 0 ≤ k → k < F → k ∈ rs.map (·.k) := fun k h0 h1 => by rw [hrs]; exact (nodesOf_mem hF hF2).mpr ⟨h0, h1⟩
  clear hrs
  refine law_e S W ?_
  clear S; intro la s S
  have S1 := S.perm (List.perm_middle (l₁ := cellL L (some (.ref sa)) (some (.int F ft)) none none none none))
  clear S
  refine law_f S1 W r (by simp) hcs hcz c2 hF hF2 hn hkm ?_
  clear S1; intro v3 v5 v6 tx ps es psx ds adj s S hT I G hg
  refine law_g S W r I G hn hkm ?_
  clear S; intro Dd dm T s S M
  refine law_h S W ?_
  clear S; intro pa s S
  refine law_i S W r (by simp [BL]) hcs hcz c2 hF hF2 ?_
  clear S; intro tot bs s S hbl hTab
  have S1 := S.perm (l' := cellL L (some (.ref sa)) (some (.int F ft)) (some (.ref Dd)) (some (.ref pa)) tot none ++ ((Dd, AIM w dm) :: (pa, APL (bs.map Value.bool)) :: BL w la x dx ag an aa ap tx rs es psx ds T ((ca, AList cvs) :: R))) (.append_left _ (.swap _ _ _))
  clear S
  refine law_j S1 W ?_
  clear S1; intro s S
  refine law_k S W r (by simp [BL]) hcs c2 hF hF2 ?_
  clear S; intro v5 gt s S
  refine law_l S W r M G ?_
  clear S; intro s S
  refine law_m S W r hT I G hg hn hkm M hbl hTab ?_
  clear S; intro vk v3 v7 v8 tot T s S
  refine law_n S W hF (fun s' S' => k _ _ T s' S' (fun p hp => by rcases List.mem_append.mp hp with h | h <;> simp [BL, h])) ?_
  clear S; intro s hgc S
  refine law_o S W hbl r ?_
  clear S; intro ga zs s hzs S
  refine law_p S ?_
  clear S; intro t0 s S
  have S1 := S.perm (l' := cellL L (some (.ref sa)) (some (.int F ft)) (some (.ref Dd)) (some (.ref pa)) tot (some (.int (gcds F cs) gt)) ++ ((Dd, AIM w dm) :: (ga, AList zs) :: (pa, APL (bs.map Value.bool)) :: BL w la x dx ag an aa ap tx rs es psx ds T ((ca, AList cvs) :: R))) (by
    refine List.Perm.trans (.append_left _ (.swap _ _ _)) ?_
    exact List.perm_middle)
  clear S
  have hm : ∀ r, 0 ≤ r → r < F → look dm r = some ((look dm r).getD 0) := fun r h0 h1 => by
    have := (M.reach G (x := r)).mpr ⟨h0, h1, by rw [hgc]; exact Int.emod_one r⟩
    obtain ⟨d, hd⟩ := Option.isSome_iff_exists.mp this
    rw [hd]; rfl
  refine law_q (m := fun r => (look dm r).getD 0) S1 W r hF hF2 hm ?_
  clear S1; intro v3 tn s S
  obtain ⟨pre, last, g1, g2, g3, g4⟩ := gaps_law G M hbl hTab hm
  have hgl : (gapsOf bs).length ≤ 1000 := by
    have := List.length_filter_le (fun t : Int => !bs.getD t.toNat false) (rl 0 1 161)
    unfold gapsOf
    simp [rl] at this ⊢
    omega
  exact law_r S W r hF hF2 hm hzs g1 g2 g3 g4 hgl (fun vs l s' S' hk => k vs l T s' S' (fun p hp => hk p (by rcases List.mem_append.mp hp with h | h <;> simp [BL, h])))
end Mine
end

section
set_option maxRecDepth 100000
set_option maxHeartbeats 8000000
set_option linter.unusedVariables false
set_option pp.deepTerms false
set_option pp.deepTerms.threshold 4
namespace Mine
open PySem PySem.W PySem.Calls PyProof.Rows

theorem fm_nones : ∀ (ns : List Str) (n : Nat), fm ns (List.replicate n none) = fun _ => none
  | [], _ => by funext y; cases ‹Nat› <;> rfl
  | _ :: _, 0 => rfl
  | a :: ns, n + 1 => by
    funext y
    show (if y = a then none else fm ns (List.replicate n none) y) = none
    rw [fm_nones ns n]
    split <;> rfl

theorem nine_nodup (n : Nat) (h1 : 363 < n) (h2 : 438 < n) (h3 : 124 < n) : ([n + 1, n + 2, n + 3, n + 4, n + 5, n + 6, 124, 363, 438] : List Nat).Nodup := by
  simp
  omega

theorem law_run {w : World} {A : Around} {Q : Flow → Shared → Prop} {h₀ : Heap} {L fa : Addr} {cd : Value} {s : Shared} {sa : Addr} {xs : List Value} {ms : List Int} {E : Value → Shared → Prop} {o1 o2 o3 o4 o5 o6 : Obj}
    (W : Wd w h₀) (F : Fr h₀ L s.heap (fun _ => none))
    (N : News h₀ L s.heap [(L + 1 + 1 + 1 + 1 + 1 + 1, o6), (L + 1 + 1 + 1 + 1 + 1, o5), (L + 1 + 1 + 1 + 1, o4), (L + 1 + 1 + 1, o3), (L + 1 + 1, o2), (L + 1, o1), (363, tabObj #[]), (438, tabObj #[]), (124, tabObj #[])])
    (h1 : o1.data = .cell (some (.ref sa))) (h2 : o2.data = .cell none) (h3 : o3.data = .cell none) (h4 : o4.data = .cell none) (h5 : o5.data = .cell none) (h6 : o6.data = .cell none)
    (hlt : 363 < L ∧ 438 < L ∧ 124 < L)
    (r : Rm A 40) (hl : h₀.IsList sa xs.toArray) (hi : IntsAre xs ms) (hz : ms.length ≤ 1000)
    (k : ∀ s', (∀ b o, h₀.get? b = some o → s'.heap.get? b = some o) → s'.os = s.os → s'.gens = s.gens → GrownAt 363 s'.heap → GrownAt 438 s'.heap → GrownAt 124 s'.heap → Q (.ret (.bool true)) s') :
    wpAny (model PG w) A (execs lawRec.body (lawEnv L fa cd)) Q E s := by
  have hL : sysModules < L := Nat.lt_of_lt_of_le W.low F.above
  have hne : ∀ n : Nat, sysModules ≠ L + (n + 1) := fun n e => absurd (e ▸ hL) (Nat.not_lt.mpr (Nat.le_add_right _ _))
  have S : St h₀ L lawNs [none, none, none, none, none, none, none, none, none, none, none] (cellL L (some (.ref sa)) none none none none none ++ (tabW none ++ [(363, ATab #[]), (438, ATab #[])])) s s := by
    refine ⟨?_, ⟨?_, ?_⟩, rfl, W.low, rfl, rfl, rfl⟩
    · have := fm_nones lawNs 11
      rw [show ([none, none, none, none, none, none, none, none, none, none, none] : List (Option Value)) = List.replicate 11 none from rfl, this]
      exact F
    · intro p hp
      have n1 := N (L + 1, o1) (by simp)
      have n2 := N (L + 1 + 1, o2) (by simp)
      have n3 := N (L + 1 + 1 + 1, o3) (by simp)
      have n4 := N (L + 1 + 1 + 1 + 1, o4) (by simp)
      have n5 := N (L + 1 + 1 + 1 + 1 + 1, o5) (by simp)
      have n6 := N (L + 1 + 1 + 1 + 1 + 1 + 1, o6) (by simp)
      have n7 := N (363, tabObj #[]) (by simp)
      have n8 := N (438, tabObj #[]) (by simp)
      have n9 := N (124, tabObj #[]) (by simp)
      have d : ∀ n : Nat, ((L + (n + 1) : Addr) == sysModules) = false := fun n => beq_eq_false_iff_ne.mpr (Ne.symm (hne n))
      simp only [cellL, tabW, List.cons_append, List.nil_append, List.mem_cons, List.not_mem_nil, or_false] at hp
      rcases hp with rfl | rfl | rfl | rfl | rfl | rfl | rfl | rfl | rfl
      · exact ⟨⟨o1, n1.1, h1⟩, n1.2.1, n1.2.2, d 0⟩
      · exact ⟨⟨o2, n2.1, h2⟩, n2.2.1, n2.2.2, d 1⟩
      · exact ⟨⟨o3, n3.1, h3⟩, n3.2.1, n3.2.2, d 2⟩
      · exact ⟨⟨o4, n4.1, h4⟩, n4.2.1, n4.2.2, d 3⟩
      · exact ⟨⟨o5, n5.1, h5⟩, n5.2.1, n5.2.2, d 4⟩
      · exact ⟨⟨o6, n6.1, h6⟩, n6.2.1, n6.2.2, d 5⟩
      · exact ⟨⟨_, n9.1, rfl⟩, n9.2.1, n9.2.2, by decide⟩
      · exact ⟨⟨_, n7.1, rfl⟩, n7.2.1, n7.2.2, by decide⟩
      · exact ⟨⟨_, n8.1, rfl⟩, n8.2.1, n8.2.2, by decide⟩
    · exact nine_nodup L hlt.1 hlt.2.1 hlt.2.2
  refine law_body S W r hl hi hz ?_
  intro vs l T s' S' hm
  have hg : ∀ {P : Addr} {ps : Array Value}, (P, ATab ps) ∈ l → GrownAt P s'.heap := fun hp => by
    obtain ⟨o, ho, q⟩ := S'.mem hp
    exact ⟨_, by rw [ho, q]⟩
  refine k s' S'.F.keep S'.o S'.g (hg (ps := #[]) (hm _ (by simp))) (hg (ps := #[]) (hm _ (by simp))) ?_
  cases T with
  | none => exact hg (ps := #[]) (hm _ (by simp [tabW]))
  | some c' => exact hg (hm _ (List.mem_append_left _ List.mem_cons_self))

theorem rm_start (env : Env) : Rm (callerA.deeper env) 40 :=
  ⟨rfl, by show callerA.depth + 1 + 40 ≤ 900; decide +kernel, by show callerA.units + 3 + 20 * 40 ≤ 9000; decide +kernel⟩

theorem good_true {c : ClaimW} {cl : Str → Option Addr} {mean : ExcName → Option Value} {args : List WData} {s₁ s' : Shared} (hr : ∀ cls, c.raises args cls = false) (hp : c.post args (.bool true) args = true)
    (hk : ∀ b o, s₁.heap.get? b = some o → s'.heap.get? b = some o) (ho : s'.os = s₁.os) (hg : s'.gens = #[]) : GoodW c cl mean args s₁ (.ok (.ret (.bool true))) s' :=
  ⟨.inl ⟨.bool true, .bool true, [], rfl, hr, .bool true, hp, fun _ => ⟨List.nodup_nil, fun a h => (nomatch h)⟩⟩, hk, ho, hg⟩
end Mine
end

open PySem PySem.W PySem.Calls PyProof.Rows Mine
set_option maxRecDepth 100000 in
set_option maxHeartbeats 8000000 in
theorem PySem.Challenge.cw_ab5042_01_holds : PySem.Challenge.rw_ab5042_01.Holds := by
  refine Mine.hd ⟨Mine.hd_obs, ?_⟩
  k_go0
  rename News _ _ _ _ => N'
  rename Fr _ _ _ _ => F'
  rename Frag.In _ _ => X'
  rename PyProof.Rows.Top topProg _ _ _ _ _ => T'
  rename IntsAre _ _ => hI
  rename PySem.Heap.IsList (ghostOf _ _) _ _ => hl
  rename _ ∧ _ ∧ _ => l0
  rename (_ : Shared).gens = #[] => hg
  rename ¬ (_ : Int) < _ => hc
  refine law_run ⟨X', _, _, _, _, T'⟩ F' N' (by assumption) (by assumption) (by assumption) (by assumption) (by assumption) (by assumption) l0 (rm_start _) hl hI ?_ ?_
  · omega
  intro s' hk ho hgn g1 g2 g3
  refine ⟨good_true ?_ ?_ hk ho (hgn.trans hg), g1, g2, g3, trivial⟩
  · skip
    intro cls; rfl
  · wrow_post
