import PyProof.Rows.All
import Wide.All
import OpenK.AllK
import Wide.FinOn
import Lean
import PySem.Challenge.RW_of0088_01
set_option Elab.async false
set_option maxRecDepth 100000
set_option maxHeartbeats 8000000
set_option autoImplicit false
set_option linter.unusedVariables false
set_option compiler.extract_closed false
namespace Mine
section
open PySem PySem.W PyProof.Rows
noncomputable abbrev stepQ := @PySem.W.Fast.tw10156331382660048174
theorem stepQ_eq : @stepT = stepQ := PySem.W.Fast.te10156331382660048174
noncomputable abbrev denQ := @PySem.W.Fast.tw11892475500146522536
theorem denQ_eq : @denote = denQ := PySem.W.Fast.te11892475500146522536
noncomputable abbrev okQ := @PySem.W.Fast.tw6613529449190102663
theorem okQ_eq : @stepOk = okQ := PySem.W.Fast.te6613529449190102663
noncomputable abbrev exitQ := @PySem.W.Fast.tw3805553451399329143
theorem exitQ_eq : @Thread.atExitBegin = exitQ := PySem.W.Fast.te3805553451399329143
noncomputable abbrev fenceQ := @PySem.W.Fast.tw14289696077712309145
theorem fenceQ_eq : @fenceModules? = fenceQ := PySem.W.Fast.te14289696077712309145
noncomputable abbrev startQ := @PySem.W.Fast.tw1435165496053646825
theorem startQ_eq : @start = startQ := PySem.W.Fast.te1435165496053646825
noncomputable abbrev seenQ := @PySem.W.Fast.tw4187177175401517315
theorem seenQ_eq : @openSeen = seenQ := PySem.W.Fast.te4187177175401517315
noncomputable abbrev tableQ := @PySem.W.Fast.tw14364793385576792824
theorem tableQ_eq : @treeTable = tableQ := PySem.W.Fast.te14364793385576792824
def treeL : List Obj → Nat → BT → Option BT
  | [], _, t => some t
  | o :: r, n, t => match ((t.ins n o).get n).isSome with
    | true => treeL r (n + 1) (t.ins n o)
    | false => none
theorem treeL_spec (life : Life) : ∀ (l : List Obj) (n : Nat) (t t' : BT), treeL l n t = some t' → (absHeap t' (n + l.length) life).objs.toList = (absHeap t n life).objs.toList ++ l
  | [], n, t, t', h => by cases h; simp
  | o :: r, n, t, t', h => by
    unfold treeL at h
    cases g : ((t.ins n o).get n).isSome with
    | false => rw [g] at h; cases h
    | true =>
      rw [g] at h
      have ih := treeL_spec life r (n + 1) _ _ h
      rw [show n + (o :: r).length = n + 1 + r.length by simp; omega, ih, absHeap_ins g]
      simp [Heap.push]
def treeS (s : Shared) : Option SharedT := (treeL s.heap.objs.toList 0 .nil).map fun t => ⟨t, s.heap.objs.size, s.heap.life, s.gens, s.drawn, s.toks, s.os⟩
theorem treeS_spec {s : Shared} {x : SharedT} (h : treeS s = some x) : x.abs = s := by
  obtain ⟨t, ht, rfl⟩ := Option.map_eq_some_iff.mp h
  have := treeL_spec s.heap.life _ _ _ _ ht
  obtain ⟨⟨objs, life⟩, g, d, k, os⟩ := s
  unfold SharedT.abs
  simp only at this ⊢
  congr 1
  have e : (absHeap BT.nil 0 life).objs.toList = [] := rfl
  rw [e, List.nil_append, Nat.zero_add, Array.length_toList] at this
  show Heap.mk _ _ = _
  congr 1
  exact Array.toList_inj.mp this
section
variable {tb : String → Option Builtin} {p : Program} {w : World} {n₀ : Nat} {ann : Option Value}
noncomputable def topRunT (tb : String → Option Builtin) (p : Program) (w : World) (n₀ : Nat) (ann : Option Value) : Nat → SharedT → Thread → Option SharedT
  | 0, _, _ => none
  | n + 1, s, t => match through t with
    | true => some s
    | false => match okQ n₀ ann t with
      | false => none
      | true => match stepQ (denQ tb) p w s t with
        | some (s', t') => topRunT tb p w n₀ ann n s' t'
        | none => none
theorem topRun_of : ∀ {n : Nat} {s s' : SharedT} {t : Thread}, topRunT tb p w n₀ ann n s t = some s' → topRun tb p w n₀ ann n s.abs t = some s'.abs
  | 0, _, _, _, h => by cases h
  | n + 1, s, s', t, h => by
    unfold topRunT at h
    rw [← stepQ_eq, ← denQ_eq, ← okQ_eq] at h
    unfold topRun
    cases he : through t with
    | true => rw [he] at h; cases h; rfl
    | false =>
      rw [he] at h
      cases hk : stepOk n₀ ann t with
      | false => rw [hk] at h; cases h
      | true =>
        rw [hk] at h
        cases hs : stepT (denote tb) p w s t with
        | none => rw [hs] at h; cases h
        | some r => obtain ⟨s₂, t₂⟩ := r; rw [hs] at h; rw [stepT_spec hs]; exact topRun_of h
noncomputable def impEndsT (tb : String → Option Builtin) (p : Program) (w : World) : Nat → SharedT → Thread → Option SharedT
  | 0, _, _ => none
  | n + 1, s, t => match exitQ t with
    | some [] => some s
    | some (_ :: _) => none
    | none => match stepQ (denQ tb) p w s t with
      | some (s', t') => impEndsT tb p w n s' t'
      | none => none
theorem impEnds_of : ∀ {n : Nat} {s s' : SharedT} {t : Thread}, impEndsT tb p w n s t = some s' → importEnds tb p w n s.abs t = some s'.abs
  | 0, _, _, _, h => by cases h
  | n + 1, s, s', t, h => by
    unfold impEndsT at h
    rw [← stepQ_eq, ← denQ_eq, ← exitQ_eq] at h
    unfold importEnds
    cases he : t.atExitBegin with
    | some l =>
      rw [he] at h
      cases l with
      | nil => cases h; rfl
      | cons a l => cases h
    | none =>
      rw [he] at h
      cases hs : stepT (denote tb) p w s t with
      | none => rw [hs] at h; cases h
      | some r => obtain ⟨s₂, t₂⟩ := r; rw [hs] at h; dsimp only; rw [stepT_spec hs]; exact impEnds_of h
noncomputable def openT (tb : String → Option Builtin) (p : Program) (w : World) (N : Nat) : Option Shared :=
  (treeS (startQ (opening p)).1).bind fun x => (impEndsT tb (opening p) w N x (startQ (opening p)).2).bind fun y => fenceQ p y.abs
theorem open_of {N : Nat} {s : Shared} (h : openT tb p w N = some s) : fencedOpening tb p w N = some s := by
  unfold openT at h
  rw [← startQ_eq, ← fenceQ_eq] at h
  obtain ⟨x, hx, h⟩ := Option.bind_eq_some_iff.mp h
  obtain ⟨y, hy, h⟩ := Option.bind_eq_some_iff.mp h
  have := impEnds_of hy
  rw [treeS_spec hx] at this
  unfold fencedOpening
  rw [this]
  exact h
noncomputable def endsT (tb : String → Option Builtin) (p : Program) (w : World) (N : Nat) : Option SharedT :=
  (openT tb p w N).bind fun s₀ => match s₀.heap.isNs mainGlobals && s₀.gens.size == 0 with
    | false => none
    | true => (treeS s₀).bind fun x => (topRunT tb p w s₀.heap.objs.size (s₀.heap.nsMap mainGlobals "__annotations__") N x (topStub p)).bind fun y =>
      match staticsOk (importedModules p.main.body) s₀.heap y.abs.heap && namesBound p y.abs.heap && gensDone y.abs && laidKept s₀.heap y.abs.heap with
      | true => some y
      | false => none
theorem ends_of {N : Nat} {y : SharedT} (h : endsT tb p w N = some y) : openEnds tb p w N = some y.abs := by
  obtain ⟨s₀, h0, h⟩ := Option.bind_eq_some_iff.mp h
  unfold openEnds
  rw [open_of h0]
  show topFrom tb p w N s₀ = _
  unfold topFrom
  cases e : s₀.heap.isNs mainGlobals && s₀.gens.size == 0 with
  | false => rw [e] at h; cases h
  | true =>
    rw [e] at h
    dsimp only at h ⊢
    obtain ⟨x, hx, h⟩ := Option.bind_eq_some_iff.mp h
    obtain ⟨z, hz, h⟩ := Option.bind_eq_some_iff.mp h
    have := topRun_of hz
    rw [treeS_spec hx] at this
    rw [this]
    show (match _ with | true => _ | false => _) = _
    split at h
    · rename_i e2
      cases h
      rfl
    · cases h
theorem left_of {q : Program} {loose : List Str} {Xt : Shared → Bool} {α : Type} {Yf : Shared → α} {Ya : World → α} {N : Nat} {g0 : Bool}
    (h1 : ∀ w, (endsT tableQ p w N).map (fun y => seenQ q loose (importedModules p.main.body) Xt g0 y.abs) = some (openGood q loose))
    (h2 : ∀ w, (endsT tableQ p w N).map (fun y => Yf y.abs) = some (Ya w)) : LeftO p q loose Xt Yf Ya N g0 := fun w => by
  rw [← tableQ_eq, ← seenQ_eq] at h1
  rw [← tableQ_eq] at h2
  obtain ⟨y, hy, e1⟩ := Option.map_eq_some_iff.mp (h1 w)
  have e2 := h2 w
  rw [hy] at e2
  rw [ends_of hy]
  simp only [Option.map_some, Option.some.injEq] at e2 ⊢
  rw [e1, e2]
end
end
section
open PySem PySem.W PyProof.Rows
noncomputable def vw : Program := view PySem.Challenge.pw_of0088_01 [0, 1, 3, 4, 5, 7, 8, 9, 10, 11, 13, 14, 15, 16, 17, 18, 19, 20, 21, 22, 23, 24, 25, 26, 27, 28, 29, 30, 31, 32, 33, 34, 35, 36, 37, 38, 39, 40, 41, 42, 44, 45, 46, 47, 48, 49, 50, 51]
abbrev LL : List Str := [Str.ofString "IPV4_RE", Str.ofString "_NodeInfo", Str.ofString "_filemode_table"]
noncomputable def xt (s : Shared) : Bool := xlAt vw [] s && recOk (RowW.records PySem.Challenge.rw_of0088_01.row.toRowW) s
theorem lawD_some : (defOf vw PySem.Challenge.rw_of0088_01.row.toRowW.name).isSome = true := by kernel_rfl
noncomputable def lawD : DefRec := ((defOf vw PySem.Challenge.rw_of0088_01.row.toRowW.name).get lawD_some).1
theorem lawD_def : defOf vw PySem.Challenge.rw_of0088_01.row.name = some (lawD, []) := by kernel_rfl
theorem lawD_the : PySem.Challenge.rw_of0088_01.row.prog.theDef PySem.Challenge.rw_of0088_01.row.name = some (lawD.params, lawD.body, lawD.scope) := by kernel_rfl
theorem lawD_kw : kwWritten? lawD.params.kwonlyargs lawD.params.kw_defaults = some [] := by kernel_rfl
theorem rowWr : (!PySem.Challenge.rw_of0088_01.row.writes || PySem.Challenge.rw_of0088_01.row.records.isEmpty) = true := by kernel_rfl
theorem rowOk : (chainsOk vw && opensWell PySem.Challenge.rw_of0088_01.row.prog && (frees PySem.Challenge.rw_of0088_01.row.toRowW && PySem.Challenge.rw_of0088_01.row.within.isEmpty)) = true := by kernel_rfl
theorem rowBare : PySem.Challenge.rw_of0088_01.row.prog.bare := ⟨rfl, rfl, rfl, rfl, rfl, by decide +kernel⟩
theorem seenS : ∀ w, (endsT tableQ PySem.Challenge.pw_of0088_01 w 4278).map (fun y => seenQ vw LL (importedModules PySem.Challenge.pw_of0088_01.main.body) xt true y.abs) = some (openGood vw LL) := fun w => by kernel_rfl
theorem xtL (s : Shared) (e : xt s = true) : XL vw [] (s.heap.nsMap mainGlobals) s.heap := xl_of s (Bool.and_eq_true_iff.mp e).1
theorem xtR (s : Shared) (e : xt s = true) : RecFacts PySem.Challenge.rw_of0088_01.row.records s.heap := recFacts_of (Bool.and_eq_true_iff.mp e).2
theorem headOf {α : Type} {Yf : Shared → α} {Ya : World → α} {YP : World → Heap → Prop} (h2 : ∀ w, (endsT tableQ PySem.Challenge.pw_of0088_01 w 4278).map (fun y => Yf y.abs) = some (Ya w))
    (hY : ∀ w s, Yf s = Ya w → YP w s.heap) (hYk : ∀ w h h', YP w h → (∀ b o, h.get? b = some o → h'.get? b = some o) → YP w h') (k1 : PySem.Challenge.rw_of0088_01.row.wellSaid = true) (hw : PySem.Challenge.rw_of0088_01.row.toRowW.promised)
    (hc : WalkO vw LL (XL vw []) YP PySem.Challenge.rw_of0088_01.row.toRowW lawD [] fun f vs => PySem.call f vs) : PySem.Challenge.rw_of0088_01.row.Holds :=
  holds_open (left_of seenS h2) hY hYk xtL XL.keeps lawD_def lawD_the lawD_kw xtR rowWr k1 rowOk rowBare hw hc
theorem lawSaid : PySem.Challenge.rw_of0088_01.wellSaid = true := by kernel_rfl
local macro_rules | `(tactic| o_law) => `(tactic| refine holds_law lawSaid fun said => ?_)
local macro_rules | `(tactic| o_head $H) => `(tactic| (refine headOf (Yf := Hook.obs $H) (Ya := Hook.val $H) (YP := Hook.says $H) (fun w => by kernel_rfl) (Hook.of $H) (Hook.keeps $H) (by assumption) ?hw ?hc))
open_top hd for PySem.Challenge.rw_of0088_01
end
section
open PySem
def nxOf (post : List Str) (nx : Option Str) : Option Str := match post with
  | [] => nx
  | g :: _ => some g
structure Dfs (SU : Str → List Str) (S : Str → Bool) (stk : List Str) (tk : Str → Nat) (nx : Option Str) : Prop where
  seen : ∀ k ∈ stk, S k = true
  nd : stk.Nodup
  fin : ∀ k, S k = true → k ∉ stk → ∀ b ∈ SU k, (S b = true ∧ b ∉ stk) ∧ k ∉ SU b
  chain : stk.Pairwise fun a b => b ∈ SU a
  take : ∀ pre k post, stk = pre ++ k :: post → ∀ b ∈ (SU k).take (tk k), (S b = true ∧ b ∉ stk) ∨ some b = nxOf post nx
  un : ∀ k, S k = false → tk k = 0
  le : ∀ k, tk k ≤ (SU k).length
section
variable {SU : Str → List Str} {S : Str → Bool} {stk : List Str} {tk : Str → Nat} {nx : Option Str} {n t : Str}
theorem Dfs.start : Dfs SU (fun _ => false) [] (fun _ => 0) none :=
  ⟨by simp, by simp, fun k h => by simp at h, by simp, fun pre k post h => by simp at h, fun _ _ => rfl, fun _ => Nat.zero_le _⟩
theorem Dfs.push (D : Dfs SU S stk tk (some n)) (hn : S n = false) (ht : ∀ s0 t, stk = s0 ++ [t] → n ∈ SU t) (htr : ∀ a b c, b ∈ SU a → c ∈ SU b → c = a ∨ c ∈ SU a) :
    Dfs SU (fun k => S k || decide (k = n)) (stk ++ [n]) tk none := by
  have hns : n ∉ stk := fun h => by rw [D.seen n h] at hn; cases hn
  refine ⟨fun k hk => ?_, ?_, fun k hk hks b hb => ?_, ?_, fun pre k post e b hb => ?_, fun k hk => ?_, D.le⟩
  · rcases List.mem_append.mp hk with h | h
    · simp [D.seen k h]
    · simp at h; simp [h]
  · rw [List.nodup_append]
    exact ⟨D.nd, by simp, fun a ha b hb e => by simp at hb; subst hb; subst e; exact hns ha⟩
  · have h1 : k ∉ stk ∧ k ≠ n := by simpa using hks
    have h2 : S k = true := by simpa [h1.2] using hk
    obtain ⟨⟨h3, h4⟩, h5⟩ := D.fin k h2 h1.1 b hb
    have hbn : b ≠ n := fun e => by rw [e, hn] at h3; cases h3
    exact ⟨⟨by simp [h3], by simp [h4, hbn]⟩, h5⟩
  · rw [List.pairwise_append]
    refine ⟨D.chain, by simp, fun a ha b hb => ?_⟩
    simp at hb
    subst hb
    rcases List.eq_nil_or_concat stk with e | ⟨s0, t, e⟩
    · rw [e] at ha; cases ha
    · have e' : stk = s0 ++ [t] := by rw [e]; simp
      have htn := ht s0 t e'
      rw [e'] at ha
      rcases List.mem_append.mp ha with ha | ha
      · have hch := D.chain
        rw [e', List.pairwise_append] at hch
        have h1 := hch.2.2 a ha t (by simp)
        rcases htr a t b h1 htn with e2 | e2
        · exfalso; apply hns; rw [e', e2]; simp [ha]
        · exact e2
      · simp at ha; rw [ha]; exact htn
  · rcases List.eq_nil_or_concat post with e2 | ⟨p2, z, e2⟩
    · subst e2
      have : k = n := by
        have h1 := congrArg List.getLast? e
        simpa using h1.symm
      subst this
      rw [D.un k hn] at hb
      simp at hb
    · have e3 : post = p2 ++ [z] := by rw [e2]; simp
      subst e3
      have e4 : stk = pre ++ k :: p2 ∧ n = z := by
        have : stk ++ [n] = (pre ++ k :: p2) ++ [z] := by rw [e]; simp
        have := List.append_inj' this rfl
        exact ⟨this.1, by simpa using this.2⟩
      obtain ⟨e5, rfl⟩ := e4
      rcases D.take pre k p2 e5 b hb with ⟨h1, h2⟩ | h1
      · left
        have hbn : b ≠ n := fun e => by rw [e, hn] at h1; cases h1
        exact ⟨by simp [h1], by simp [h2, hbn]⟩
      · right
        cases p2 with
        | nil => exact h1
        | cons g r => exact h1
  · have : S k = false ∧ k ≠ n := by simpa using hk
    exact D.un k this.1
theorem Dfs.skip (D : Dfs SU S stk tk (some n)) (h1 : S n = true) (h2 : n ∉ stk) : Dfs SU S stk tk none := by
  refine ⟨D.seen, D.nd, D.fin, D.chain, fun pre k post e b hb => ?_, D.un, D.le⟩
  rcases D.take pre k post e b hb with h | h
  · exact .inl h
  · cases post with
    | nil =>
      have : b = n := by simpa [nxOf] using h
      subst this
      exact .inl ⟨h1, h2⟩
    | cons g r => exact .inr h
theorem Dfs.next {s0 : List Str} {b : Str} (D : Dfs SU S (s0 ++ [t]) tk none) (hb : (SU t)[tk t]? = some b) : Dfs SU S (s0 ++ [t]) (fun k => if k = t then tk t + 1 else tk k) (some b) := by
  have hlt : tk t < (SU t).length := (List.getElem?_eq_some_iff.mp hb).1
  refine ⟨D.seen, D.nd, D.fin, D.chain, fun pre k post e c hc => ?_, fun k hk => ?_, fun k => ?_⟩
  · by_cases hk : k = t
    · subst hk
      simp only [if_true] at hc
      rw [List.take_add_one, hb] at hc
      have hpost : post = [] := by
        have hnd := D.nd
        rw [e] at hnd
        rcases List.eq_nil_or_concat post with e2 | ⟨p2, z, e2⟩
        · exact e2
        · exfalso
          have e3 : post = p2 ++ [z] := by rw [e2]; simp
          rw [e3] at e hnd
          have h5 : s0 ++ [k] = (pre ++ k :: p2) ++ [z] := by rw [e]; simp
          have h6 := (List.append_inj' h5 rfl).2
          simp at h6
          subst h6
          rw [List.nodup_append] at hnd
          have := (List.nodup_cons.mp hnd.2.1).1
          exact this (by simp)
      subst hpost
      rcases List.mem_append.mp hc with h | h
      · rcases D.take pre k [] e c h with h | h
        · exact .inl h
        · cases h
      · right
        have : c = b := by simpa using h
        rw [this]; rfl
    · simp only [hk, if_false] at hc
      rcases D.take pre k post e c hc with h | h
      · exact .inl h
      · right
        cases post with
        | nil => cases h
        | cons g r => exact h
  · have : k ≠ t := fun e => by rw [e, D.seen t (by simp)] at hk; cases hk
    simp only [this, if_false]
    exact D.un k hk
  · by_cases hk : k = t
    · subst hk; simp only [if_true]; omega
    · simp only [hk, if_false]; exact D.le k
theorem Dfs.pop {s0 : List Str} (D : Dfs SU S (s0 ++ [t]) tk none) (ht : (SU t).length ≤ tk t) : Dfs SU S s0 tk none := by
  have htn : t ∉ s0 := fun h => by
    have := D.nd
    rw [List.nodup_append] at this
    exact this.2.2 t h t (by simp) rfl
  have hall : ∀ b ∈ SU t, S b = true ∧ b ∉ s0 ++ [t] := fun b hb => by
    rcases D.take s0 t [] rfl b (by rw [List.take_of_length_le ht]; exact hb) with h | h
    · exact h
    · cases h
  refine ⟨fun k hk => D.seen k (by simp [hk]), (List.nodup_append.mp D.nd).1, fun k hk hks b hb => ?_, (List.pairwise_append.mp D.chain).1, fun pre k post e b hb => ?_, D.un, D.le⟩
  · by_cases hkt : k = t
    · subst hkt
      obtain ⟨h1, h2⟩ := hall b hb
      refine ⟨⟨h1, fun h => h2 (by simp [h])⟩, fun h => ?_⟩
      exact ((D.fin b h1 h2 k h).1.2) (by simp)
    · obtain ⟨⟨h1, h2⟩, h3⟩ := D.fin k hk (by simp [hks, hkt]) b hb
      exact ⟨⟨h1, fun h => h2 (by simp [h])⟩, h3⟩
  · rcases D.take pre k (post ++ [t]) (by rw [e]; simp) b hb with ⟨h1, h2⟩ | h1
    · exact .inl ⟨h1, fun h => h2 (by simp [h])⟩
    · cases post with
      | nil =>
        have : b = t := by simpa [nxOf] using h1
        subst this
        exact .inl ⟨D.seen b (by simp), htn⟩
      | cons g r => exact .inr h1
theorem Dfs.cycle (D : Dfs SU S stk tk nx) (h1 : n ∈ stk) (ht : ∀ s0 t, stk = s0 ++ [t] → n ∈ SU t) (hir : ∀ a, a ∉ SU a) : ∃ a b, b ∈ SU a ∧ a ∈ SU b := by
  rcases List.eq_nil_or_concat stk with e | ⟨s0, t, e⟩
  · rw [e] at h1; cases h1
  · have e' : stk = s0 ++ [t] := by rw [e]; simp
    have htn := ht s0 t e'
    rw [e'] at h1
    rcases List.mem_append.mp h1 with h | h
    · have hch := D.chain
      rw [e', List.pairwise_append] at hch
      exact ⟨n, t, hch.2.2 n h t (by simp), htn⟩
    · simp at h
      rw [h] at htn
      exact absurd htn (hir t)
theorem Dfs.re (D : Dfs SU S [] tk none) (n : Str) : Dfs SU S [] tk (some n) := ⟨D.seen, D.nd, D.fin, D.chain, fun pre k post e => by simp at e, D.un, D.le⟩
end
def left (SU : Str → List Str) (tk : Str → Nat) (ks : List Str) : Nat := (ks.map fun k => (SU k).length - tk k).sum
theorem left_lt {SU : Str → List Str} {tk : Str → Nat} {t : Str} : ∀ {ks : List Str}, t ∈ ks → tk t < (SU t).length → left SU (fun k => if k = t then tk t + 1 else tk k) ks < left SU tk ks
  | k :: r, hm, hlt => by
    unfold left
    simp only [List.map_cons, List.sum_cons]
    have hle : ∀ r : List Str, (r.map fun k => (SU k).length - (if k = t then tk t + 1 else tk k)).sum ≤ (r.map fun k => (SU k).length - tk k).sum := by
      intro r
      induction r with
      | nil => simp
      | cons a r ih =>
        simp only [List.map_cons, List.sum_cons]
        have : (SU a).length - (if a = t then tk t + 1 else tk a) ≤ (SU a).length - tk a := by
          split
          · rename_i e; subst e; omega
          · omega
        omega
    rcases List.mem_cons.mp hm with rfl | hm
    · have := hle r
      simp only [if_true]
      omega
    · have h1 := left_lt hm hlt
      unfold left at h1
      dsimp only at h1
      have : (SU k).length - (if k = t then tk t + 1 else tk k) ≤ (SU k).length - tk k := by
        split
        · rename_i e; subst e; omega
        · omega
      omega
end
open PySem PySem.W PyProof.Rows PySem.Calls
section
abbrev PG : Program := Challenge.rw_of0088_01.row.prog
noncomputable abbrev TopX (mean : ExcName → Option Value) (mg mb : Str → Option Value) (h : Heap) : Prop := Top vw (looseW vw LL) mean mg mb h
structure Wd where
  w : World
  h : Heap
  os : OsState
  mean : ExcName → Option Value
  mg : Str → Option Value
  mb : Str → Option Value
  X : (hd.heap_1 w.params).In h
  T : TopX mean mg mb h
abbrev Mo (W : Wd) : Model := model PG W.w
abbrev upd (m : Str → Option Value) (x : Str) (v : Value) : Str → Option Value := fun y => if y = x then some v else m y
abbrev Up (β β' : Addr → Option Obj) : Prop := ∀ a o, β a = some o → ∃ sl, β' a = some { o with slots := sl }
def Keeps (W : Wd) (β : Addr → Option Obj) (h : Heap) : Prop := (∀ a o, W.h.get? a = some o → h.get? a = some o) ∧ ∀ a o, β a = some o → ∃ sl, h.get? a = some { o with slots := sl }
structure Pt (W : Wd) (β : Addr → Option Obj) (L : Addr) (m : Str → Option Value) (led : List (Addr × Obj)) (s : Shared) : Prop where
  base : ∀ a o, W.h.get? a = some o → β a = some o
  keep : Keeps W β s.heap
  off : β L = none
  ns : s.heap.Ns L m
  own : ∀ p ∈ led, s.heap.get? p.1 = some p.2 ∧ p.1 ≠ L ∧ β p.1 = none
  nd : (led.map (·.1)).Nodup
  gens : s.gens = #[]
  os : s.os = W.os
section
variable {W : Wd} {β : Addr → Option Obj} {L : Addr} {m : Str → Option Value} {led : List (Addr × Obj)} {s : Shared}
theorem Pt.tk (P : Pt W β L m led s) (t : Nat) : Pt W β L m led { s with toks := t } := ⟨P.base, P.keep, P.off, P.ns, P.own, P.nd, P.gens, P.os⟩
theorem Pt.all (P : Pt W β L m led s) : ∀ a o, W.h.get? a = some o → s.heap.get? a = some o := P.keep.1
theorem Pt.keeps (P : Pt W β L m led s) {h' : Heap} (hk : ∀ b x y, β b = some y → s.heap.get? b = some x → h'.get? b = some x) : Keeps W β h' :=
  ⟨fun a o e => hk a o o (P.base a o e) (P.keep.1 a o e), fun a o e => let ⟨sl, q⟩ := P.keep.2 a o e; ⟨sl, hk a _ o e q⟩⟩
theorem Pt.ltβ (P : Pt W β L m led s) {a : Addr} {o : Obj} (e : β a = some o) : a < s.heap.objs.size := let ⟨_, q⟩ := P.keep.2 a o e; Heap.lt_size q
theorem Pt.X (P : Pt W β L m led s) : (hd.heap_1 W.w.params).In s.heap := W.X.keeps P.all
theorem Pt.T (P : Pt W β L m led s) : TopX W.mean W.mg W.mb s.heap := W.T.keeps P.all
theorem Pt.nolimit (P : Pt W β L m led s) : s.heap.NoLimit := P.T.nolimit
theorem Pt.get (P : Pt W β L m led s) {a : Addr} {o : Obj} (h : (a, o) ∈ led) : s.heap.get? a = some o := (P.own _ h).1
theorem Pt.alloc (P : Pt W β L m led s) (o : Obj) (hf : o.isFreed = false := by rfl) : Pt W β L m ((s.heap.objs.size, o) :: led) { s with heap := s.heap.push o } := by
  refine ⟨P.base, P.keeps fun a o' y _ e => Heap.get?_push_of_some _ e, P.off, P.ns.push o, ?_, ?_, P.gens, P.os⟩
  · intro p hp
    rcases List.mem_cons.mp hp with rfl | hp
    · refine ⟨Heap.get?_push_size _ hf, Nat.ne_of_gt P.ns.lt, ?_⟩
      cases hq : β s.heap.objs.size with
      | none => rfl
      | some o' => exact absurd (P.ltβ hq) (Nat.lt_irrefl _)
    · exact ⟨Heap.get?_push_of_some _ (P.own p hp).1, (P.own p hp).2⟩
  · refine List.nodup_cons.mpr ⟨fun hm => ?_, P.nd⟩
    obtain ⟨p, hp, e⟩ := List.mem_map.mp hm
    exact absurd (Heap.lt_size (P.own p hp).1) (by rw [e]; exact Nat.lt_irrefl _)
theorem nodup_fst_ne {pre post : List (Addr × Obj)} {a : Addr} {o : Obj} (h : ((pre ++ (a, o) :: post).map (·.1)).Nodup) :
    (∀ p ∈ pre, p.1 ≠ a) ∧ (∀ p ∈ post, p.1 ≠ a) := by
  simp only [List.map_append, List.map_cons] at h
  rw [List.nodup_append] at h
  obtain ⟨_, h2, h3⟩ := h
  refine ⟨fun p hp e => ?_, fun p hp e => ?_⟩
  · exact h3 p.1 (List.mem_map.mpr ⟨p, hp, rfl⟩) a List.mem_cons_self e
  · exact (List.nodup_cons.mp h2).1 (by rw [← e]; exact List.mem_map.mpr ⟨p, hp, rfl⟩)
theorem Pt.update {pre post : List (Addr × Obj)} {a : Addr} {o : Obj} (P : Pt W β L m (pre ++ (a, o) :: post) s) (f : Obj → Obj) {o' : Obj} (e : f o = o') (hf : o'.isFreed = false) :
    Pt W β L m (pre ++ (a, o') :: post) { s with heap := s.heap.update a f } := by
  have D := P.own (a, o) (by simp)
  obtain ⟨n1, n2⟩ := nodup_fst_ne P.nd
  obtain ⟨oL, es, ep, hL, r⟩ := P.ns
  refine ⟨P.base, P.keeps fun b x y q e => (Heap.get?_update_ne _ _ _ _ fun z => ?_).trans e, P.off, ⟨oL, es, ep, (Heap.get?_update_ne _ _ _ _ (Ne.symm D.2.1)).trans hL, r⟩, fun p hp => ?_, ?_, P.gens, P.os⟩
  · have := D.2.2; rw [← z, q] at this; cases this
  · rcases List.mem_append.mp hp with q | q
    · have R := P.own p (List.mem_append_left _ q); exact ⟨(Heap.get?_update_ne _ _ _ _ (n1 p q)).trans R.1, R.2⟩
    · rcases List.mem_cons.mp q with rfl | q
      · exact ⟨e ▸ Heap.get?_update_self _ D.1 (e ▸ hf), D.2⟩
      · have R := P.own p (List.mem_append_right _ (.tail _ q)); exact ⟨(Heap.get?_update_ne _ _ _ _ (n2 p q)).trans R.1, R.2⟩
  · have := P.nd
    simpa only [List.map_append, List.map_cons] using this
theorem Pt.drop {led' : List (Addr × Obj)} (P : Pt W β L m led s) (h : List.Sublist led' led) : Pt W β L m led' s :=
  ⟨P.base, P.keep, P.off, P.ns, fun p hp => P.own p (h.subset hp), (h.map _).nodup P.nd, P.gens, P.os⟩
theorem Pt.tail {p : Addr × Obj} (P : Pt W β L m (p :: led) s) : Pt W β L m led s := P.drop (List.sublist_cons_self _ _)
theorem Pt.perm {led' : List (Addr × Obj)} (P : Pt W β L m led s) (h : List.Perm led' led) : Pt W β L m led' s :=
  ⟨P.base, P.keep, P.off, P.ns, fun p hp => P.own p (h.subset hp), ((h.map _).nodup_iff).mpr P.nd, P.gens, P.os⟩
theorem Pt.setNs {m' : Str → Option Value} {h' : Heap} (P : Pt W β L m led s) (hn : h'.Ns L m') (hs : Heap.SameBut L s.heap h') (t : Nat) : Pt W β L m' led { s with heap := h', toks := t } := by
  refine ⟨P.base, P.keeps fun a x o e q => (hs.2 a fun z => ?_).trans q, P.off, hn, fun p hp => ⟨(hs.2 _ (P.own p hp).2.1).trans (P.own p hp).1, (P.own p hp).2⟩, P.nd, P.gens, P.os⟩
  rw [z, P.off] at e; cases e
theorem Pt.same {m' : Str → Option Value} (P : Pt W β L m led s) (e : m = m') : Pt W β L m' led s := e ▸ P
end
section
variable {W : Wd} {A : Around} {E : Value → Shared → Prop} {β : Addr → Option Obj} {m : Str → Option Value} {led : List (Addr × Obj)} {s : Shared} {env : Env}
theorem st_ {x : Str} {v : Value} {Q : Unit → Shared → Prop} (P : Pt W β env.locals m led s) (hk : env.scope.kind = .function) (hl : env.kindOf x = some .local)
    (h : ∀ s', Pt W β env.locals (upd m x v) led s' → Q () s') : wpAny (Mo W) A (storeName env x v) Q E s :=
  wpAny_storeName_local hl P.ns (fun h' hn hs => h _ (P.setNs hn hs _)) (by rw [hk]; rfl)
theorem ld_ {x : Str} {pos : Pos} {v : Value} {Q : Value → Shared → Prop} (P : Pt W β env.locals m led s) (hk : env.scope.kind = .function) (hl : env.kindOf x = some .local) (hv : m x = some v)
    (h : Q v s) (hd : (x == ("__debug__" : Str)) = false := by decide) : wpAny (Mo W) A (eval (.Name x pos) env) Q E s :=
  wpAny_Name (wpAny_loadName_local hk hl P.ns hv h) hd
end
section
variable {W : Wd} {A : Around} {E : Value → Shared → Prop} {β : Addr → Option Obj} {L : Addr} {m : Str → Option Value} {led : List (Addr × Obj)} {s : Shared} {env : Env}
def hideB (led : List (Addr × Obj)) (h : Heap) : Addr → Option Obj := fun a => if a ∈ led.map (·.1) then none else h.get? a
theorem hideB_of {h : Heap} {a : Addr} {o : Obj} (e : h.get? a = some o) (n : a ∉ led.map (·.1)) : hideB led h a = some o := by unfold hideB; rw [if_neg n]; exact e
theorem of_hideB {h : Heap} {a : Addr} {o : Obj} (e : hideB led h a = some o) : h.get? a = some o := by unfold hideB at e; split at e; cases e; exact e
theorem hideB_mem {h : Heap} {a : Addr} (e : a ∈ led.map (·.1)) : hideB led h a = none := by unfold hideB; rw [if_pos e]
theorem Pt.notLed (P : Pt W β L m led s) {a : Addr} {o : Obj} (e : β a = some o) : a ∉ led.map (·.1) := fun q => by
  obtain ⟨p, hp, rfl⟩ := List.mem_map.mp q
  rw [(P.own p hp).2.2] at e; cases e
theorem Pt.notLedL (P : Pt W β L m led s) : L ∉ led.map (·.1) := fun q => by
  obtain ⟨p, hp, e⟩ := List.mem_map.mp q
  exact (P.own p hp).2.1 e
theorem Pt.into (P : Pt W β L m led s) {L' : Addr} {m' : Str → Option Value} {s' : Shared} (hL : s.heap.get? L' = none) (hn : s'.heap.Ns L' m') (hk : ∀ b o, s.heap.get? b = some o → s'.heap.get? b = some o)
    (hg : s'.gens = s.gens) (ho : s'.os = s.os) : Pt W (hideB led s.heap) L' m' led s' := by
  refine ⟨fun a o e => hideB_of (P.all a o e) (P.notLed (P.base a o e)), ⟨fun a o e => hk a o (P.all a o e), fun a o e => ⟨o.slots, hk a o (of_hideB e)⟩⟩, ?_, hn, fun p hp => ⟨hk _ _ (P.own p hp).1, fun e => ?_, hideB_mem (List.mem_map_of_mem hp)⟩, P.nd, hg.trans P.gens, ho.trans P.os⟩
  · cases q : hideB led s.heap L' with
    | none => rfl
    | some o => rw [of_hideB q] at hL; cases hL
  · have := (P.own p hp).1; rw [e, hL] at this; cases this
theorem Pt.back (P : Pt W β L m led s) {L' : Addr} {m'' : Str → Option Value} {led'' : List (Addr × Obj)} {s'' : Shared} (P' : Pt W (hideB led s.heap) L' m'' led'' s'') : Pt W β L m led'' s'' := by
  obtain ⟨oL, es, ep, hL, r⟩ := P.ns
  have hBL : hideB led s.heap L = some oL := hideB_of hL P.notLedL
  obtain ⟨slL, hL'⟩ := P'.keep.2 _ _ hBL
  refine ⟨P.base, ⟨P'.keep.1, fun a o e => ?_⟩, P.off, ⟨_, es, ep, hL', r⟩, fun p hp => ⟨(P'.own p hp).1, fun e => ?_, ?_⟩, P'.nd, P'.gens, P'.os⟩
  · obtain ⟨sl, h1⟩ := P.keep.2 a o e
    obtain ⟨sl', h2⟩ := P'.keep.2 a _ (hideB_of h1 (P.notLed e))
    exact ⟨sl', h2⟩
  · have := (P'.own p hp).2.2; rw [e, hBL] at this; cases this
  · cases q : β p.1 with
    | none => rfl
    | some o => obtain ⟨sl, h1⟩ := P.keep.2 _ _ q; have := (P'.own p hp).2.2; rw [hideB_of h1 (P.notLed q)] at this; cases this
theorem Pt.up (P : Pt W β L m led s) : Up β (hideB led s.heap) := fun a o e => let ⟨sl, h⟩ := P.keep.2 a o e; ⟨sl, hideB_of h (P.notLed e)⟩
abbrev retv (fl : Flow) : Value := match fl with | .ret v => v | _ => .none
theorem call_def {Q : Value → Shared → Prop} {name qual : Str} {params : Arguments} {body : List Stmt} {scope : Scope} {dV kV doc pm cdv ct oc : Value} {an od : Option Addr} {osl : Array (Option Value)} {f : Addr} {args : List Value} {binds : List (Str × Value)}
    (P : Pt W β L m led s) (ho : (hd.heap_1 W.w.params).lookup f = some ⟨oc, od, .func (fnOf name qual params body scope dV kV doc pm an cdv ct), osl⟩) (hcd : codeIn (hd.heap_1 W.w.params) cdv qual = true)
    (hroom : A.depth < recursionLimit) (hbind : BindsTo s (fnOf name qual params body scope dV kV doc pm an cdv ct) ⟨args, []⟩ binds) (hloc : ∀ y ∈ binds, scope.names.lookup y.1 = some .local)
    (hco : scope.isCoroutine = false) (hgen : scope.isGenerator = false) (hk : scope.kind = .function) (hcell : ∀ x ∈ scope.names, x.2 ≠ .cell)
    (h : ∀ β' L' s', Pt W β' L' (fun y => binds.reverse.lookup y) led s' → Up β β' → (∀ m'' led'' s'', Pt W β' L' m'' led'' s'' → Pt W β L m led'' s'') →
      wpAny (Mo W) (A.deeper (envOf qual scope L' f cdv)) (execs body (envOf qual scope L' f cdv)) (fun fl s'' => Q (retv fl) s'')
        (fun e s'' => wpAny (Mo W) (A.deeper (envOf qual scope L' f cdv)) (leaving (envOf qual scope L' f cdv) e) (fun _ s3 => E e s3) (fun e' s3 => E e' s3) s'') s') :
    wpAny (Mo W) A (call (.ref f) args) Q E s := by
  refine wpAny_call (codeAny_call_def (fd := fnOf name qual params body scope dV kV doc pm an cdv ct) (body := body) (binds := binds) hroom (P.X _ _ ho) rfl P.nolimit (codeRec_of P.X hcd) rfl hbind hcell hloc (fun h₁ hns hk₁ => ?_) hco hgen hk)
  have hnone : s.heap.get? s.heap.objs.size = none := by
    cases q : s.heap.get? s.heap.objs.size with
    | none => rfl
    | some o => exact absurd (Heap.lt_size q) (Nat.lt_irrefl _)
  exact h (hideB led s.heap) s.heap.objs.size { s with heap := h₁, toks := s.toks + binds.length } (P.into hnone hns hk₁ rfl rfl) P.up (fun m'' led'' s'' P' => P.back P')
end
theorem filled : Challenge.rw_of0088_01.foot = Challenge.rw_of0088_01.foot ∧ hd.heap_1 = hd.heap_1 := by
  k_fill
  exact ⟨rfl, rfl⟩
end
section
structure A3 (p1 p2 p3 : Prop) : Prop where
  a1 : p1
  a2 : p2
  a3 : p3
structure A4 (p1 p2 p3 p4 : Prop) : Prop where
  a1 : p1
  a2 : p2
  a3 : p3
  a4 : p4
structure A5 (p1 p2 p3 p4 p5 : Prop) : Prop where
  a1 : p1
  a2 : p2
  a3 : p3
  a4 : p4
  a5 : p5
structure A6 (p1 p2 p3 p4 p5 p6 : Prop) : Prop where
  a1 : p1
  a2 : p2
  a3 : p3
  a4 : p4
  a5 : p5
  a6 : p6
structure A7 (p1 p2 p3 p4 p5 p6 p7 : Prop) : Prop where
  a1 : p1
  a2 : p2
  a3 : p3
  a4 : p4
  a5 : p5
  a6 : p6
  a7 : p7
structure A8 (p1 p2 p3 p4 p5 p6 p7 p8 : Prop) : Prop where
  a1 : p1
  a2 : p2
  a3 : p3
  a4 : p4
  a5 : p5
  a6 : p6
  a7 : p7
  a8 : p8
structure A9 (p1 p2 p3 p4 p5 p6 p7 p8 p9 : Prop) : Prop where
  a1 : p1
  a2 : p2
  a3 : p3
  a4 : p4
  a5 : p5
  a6 : p6
  a7 : p7
  a8 : p8
  a9 : p9
structure A11 (p1 p2 p3 p4 p5 p6 p7 p8 p9 p10 p11 : Prop) : Prop where
  a1 : p1
  a2 : p2
  a3 : p3
  a4 : p4
  a5 : p5
  a6 : p6
  a7 : p7
  a8 : p8
  a9 : p9
  a10 : p10
  a11 : p11
structure A13 (p1 p2 p3 p4 p5 p6 p7 p8 p9 p10 p11 p12 p13 : Prop) : Prop where
  a1 : p1
  a2 : p2
  a3 : p3
  a4 : p4
  a5 : p5
  a6 : p6
  a7 : p7
  a8 : p8
  a9 : p9
  a10 : p10
  a11 : p11
  a12 : p12
  a13 : p13
structure A18 (p1 p2 p3 p4 p5 p6 p7 p8 p9 p10 p11 p12 p13 p14 p15 p16 p17 p18 : Prop) : Prop where
  a1 : p1
  a2 : p2
  a3 : p3
  a4 : p4
  a5 : p5
  a6 : p6
  a7 : p7
  a8 : p8
  a9 : p9
  a10 : p10
  a11 : p11
  a12 : p12
  a13 : p13
  a14 : p14
  a15 : p15
  a16 : p16
  a17 : p17
  a18 : p18
inductive Ex2.{u1,u2} {t1 : Sort u1} {t2 : Sort u2} (p : t1 → t2 → Prop) : Prop where
  | intro (x1 : t1) (x2 : t2) (h : p x1 x2) : Ex2 p
inductive Ex3.{u1,u2,u3} {t1 : Sort u1} {t2 : Sort u2} {t3 : Sort u3} (p : t1 → t2 → t3 → Prop) : Prop where
  | intro (x1 : t1) (x2 : t2) (x3 : t3) (h : p x1 x2 x3) : Ex3 p
inductive Ex5.{u1,u2,u3,u4,u5} {t1 : Sort u1} {t2 : Sort u2} {t3 : Sort u3} {t4 : Sort u4} {t5 : Sort u5} (p : t1 → t2 → t3 → t4 → t5 → Prop) : Prop where
  | intro (x1 : t1) (x2 : t2) (x3 : t3) (x4 : t4) (x5 : t5) (h : p x1 x2 x3 x4 x5) : Ex5 p
inductive Ex6.{u1,u2,u3,u4,u5,u6} {t1 : Sort u1} {t2 : Sort u2} {t3 : Sort u3} {t4 : Sort u4} {t5 : Sort u5} {t6 : Sort u6} (p : t1 → t2 → t3 → t4 → t5 → t6 → Prop) : Prop where
  | intro (x1 : t1) (x2 : t2) (x3 : t3) (x4 : t4) (x5 : t5) (x6 : t6) (h : p x1 x2 x3 x4 x5 x6) : Ex6 p
inductive Ex9.{u1,u2,u3,u4,u5,u6,u7,u8,u9} {t1 : Sort u1} {t2 : Sort u2} {t3 : Sort u3} {t4 : Sort u4} {t5 : Sort u5} {t6 : Sort u6} {t7 : Sort u7} {t8 : Sort u8} {t9 : Sort u9} (p : t1 → t2 → t3 → t4 → t5 → t6 → t7 → t8 → t9 → Prop) : Prop where
  | intro (x1 : t1) (x2 : t2) (x3 : t3) (x4 : t4) (x5 : t5) (x6 : t6) (x7 : t7) (x8 : t8) (x9 : t9) (h : p x1 x2 x3 x4 x5 x6 x7 x8 x9) : Ex9 p
inductive Ex14.{u1,u2,u3,u4,u5,u6,u7,u8,u9,u10,u11,u12,u13,u14} {t1 : Sort u1} {t2 : Sort u2} {t3 : Sort u3} {t4 : Sort u4} {t5 : Sort u5} {t6 : Sort u6} {t7 : Sort u7} {t8 : Sort u8} {t9 : Sort u9} {t10 : Sort u10} {t11 : Sort u11} {t12 : Sort u12} {t13 : Sort u13} {t14 : Sort u14} (p : t1 → t2 → t3 → t4 → t5 → t6 → t7 → t8 → t9 → t10 → t11 → t12 → t13 → t14 → Prop) : Prop where
  | intro (x1 : t1) (x2 : t2) (x3 : t3) (x4 : t4) (x5 : t5) (x6 : t6) (x7 : t7) (x8 : t8) (x9 : t9) (x10 : t10) (x11 : t11) (x12 : t12) (x13 : t13) (x14 : t14) (h : p x1 x2 x3 x4 x5 x6 x7 x8 x9 x10 x11 x12 x13 x14) : Ex14 p
abbrev Loc := Str → Option Value
abbrev Led := List (Addr × Obj)
structure Cx where
  W : Wd
  A : Around
  E : Value → Shared → Prop
  β : Addr → Option Obj
  L : Addr
def T {α : Type} (C : Cx) (m : Loc) (led : Led) (t : Sem α) (Q : α → Loc → Led → Prop) : Prop :=
  ∀ s, Pt C.W C.β C.L m led s → wpAny (Mo C.W) C.A t (fun a s' => ∃ m' led', Pt C.W C.β C.L m' led' s' ∧ Q a m' led') C.E s
section
variable {α γ : Type} {C : Cx} {m : Loc} {led : Led} {env : Env}
theorem T.run {t : Sem α} {Q : α → Loc → Led → Prop} {Q' : α → Shared → Prop} {s : Shared} (h : T C m led t Q) (P : Pt C.W C.β C.L m led s)
    (k : ∀ a s' m' led', Pt C.W C.β C.L m' led' s' → Q a m' led' → Q' a s') : wpAny (Mo C.W) C.A t Q' C.E s :=
  wpAny_mono (h s P) (fun a s' ⟨m', led', P', hq⟩ => k a s' m' led' P' hq) fun _ _ x => x
theorem T.mono {t : Sem α} {Q Q' : α → Loc → Led → Prop} (h : T C m led t Q) (k : ∀ a m' led', Q a m' led' → Q' a m' led') : T C m led t Q' :=
  fun s P => h.run P fun a s' m' led' P' hq => ⟨m', led', P', k a m' led' hq⟩
theorem r_pure {a : α} {Q : α → Loc → Led → Prop} (h : Q a m led) : T C m led (pure a) Q := fun s P => wpAny_pure ⟨m, led, P, h⟩
theorem r_bind {t : Sem α} {f : α → Sem γ} {Q : γ → Loc → Led → Prop} (h : T C m led t fun a m' led' => T C m' led' (f a) Q) : T C m led (t >>= f) Q :=
  fun s P => wpAny_bind (h.run P fun a s' m' led' P' hq => hq s' P')
theorem r_holding {vs : List Value} {t : Sem α} {Q : α → Loc → Led → Prop} (h : T C m led t Q) : T C m led (holding vs t) Q := fun s P => wpAny_holding (h s P)
theorem r_keep {vs : List Value} {t : Sem α} {Q : α → Loc → Led → Prop} (h : T C m led t Q) : T C m led (t.keep vs) Q := fun s P => Calls.wpAny_keep (h s P)
theorem r_standAt {pos : Pos} {Q : Unit → Loc → Led → Prop} (h : Q () m led) : T C m led (standAt pos) Q := fun s P => wpAny_standAt ⟨m, led, P, h⟩
theorem r_rule {x : String} {Q : Unit → Loc → Led → Prop} (h : Q () m led) : T C m led (rule x) Q := fun s P => wpAny_rule ⟨m, led, P, h⟩
theorem r_point {Q : Unit → Loc → Led → Prop} (h : Q () m led) : T C m led point Q := fun s P => wpAny_point ⟨m, led, P, h⟩
theorem r_drop {led' : Led} {t : Sem α} {Q : α → Loc → Led → Prop} (h : T C m led' t Q) (hs : List.Sublist led' led) : T C m led t Q := fun s P => h s (P.drop hs)
theorem r_perm {led' : Led} {t : Sem α} {Q : α → Loc → Led → Prop} (h : T C m led' t Q) (hs : List.Perm led' led) : T C m led t Q := fun s P => h s (P.perm hs)
theorem r_facts {t : Sem α} {Q : α → Loc → Led → Prop} (h : (led.map (·.1)).Nodup → (∀ p ∈ led, p.1 ≠ C.L ∧ C.β p.1 = none) → T C m led t Q) : T C m led t Q :=
  fun s P => h P.nd (fun p hp => (P.own p hp).2) s P
def Sq (C : Cx) (env : Env) (rest : List Stmt) (Q : Flow → Loc → Led → Prop) (f : Flow) (m : Loc) (led : Led) : Prop :=
  match f with
  | .next => T C m led (execs rest env) Q
  | f => Q f m led
theorem Sq.next {rest : List Stmt} {Q : Flow → Loc → Led → Prop} (h : T C m led (execs rest env) Q) : Sq C env rest Q .next m led := h
theorem Sq.ret {rest : List Stmt} {Q : Flow → Loc → Led → Prop} {v : Value} (h : Q (.ret v) m led) : Sq C env rest Q (.ret v) m led := h
theorem Sq.brk {rest : List Stmt} {Q : Flow → Loc → Led → Prop} (h : Q .brk m led) : Sq C env rest Q .brk m led := h
theorem Sq.cont {rest : List Stmt} {Q : Flow → Loc → Led → Prop} (h : Q .cont m led) : Sq C env rest Q .cont m led := h
theorem r_cons {st : Stmt} {rest : List Stmt} {Q : Flow → Loc → Led → Prop} (h : T C m led (exec st env) (Sq C env rest Q)) : T C m led (execs (st :: rest) env) Q :=
  fun s P => wpAny_execs_cons (h.run P fun f s' m' led' P' hq => by cases f <;> first | exact hq s' P' | exact ⟨m', led', P', hq⟩)
structure LQ (QQ S : Flow → Loc → Led → Prop) : Prop where
  k : ∀ f m l, S f m l → QQ f m l
theorem r_consQ {st : Stmt} {rest : List Stmt} {Q : Flow → Loc → Led → Prop} (h : ∀ QQ, LQ QQ (Sq C env rest Q) → T C m led (exec st env) QQ) : T C m led (execs (st :: rest) env) Q := r_cons (h _ ⟨fun _ _ _ x => x⟩)
section
variable {C' : Cx} {QQ Q : Flow → Loc → Led → Prop} {rest : List Stmt}
theorem leafN (hq : LQ QQ (Sq C' env rest Q)) (h : T C' m led (execs rest env) Q) : QQ .next m led := hq.k _ _ _ h
theorem leafR {v : Value} (hq : LQ QQ (Sq C' env rest Q)) (h : Q (.ret v) m led) : QQ (.ret v) m led := hq.k _ _ _ h
theorem leafB (hq : LQ QQ (Sq C' env rest Q)) (h : Q .brk m led) : QQ .brk m led := hq.k _ _ _ h
theorem leafC (hq : LQ QQ (Sq C' env rest Q)) (h : Q .cont m led) : QQ .cont m led := hq.k _ _ _ h
end
theorem r_nil {Q : Flow → Loc → Led → Prop} (h : Q .next m led) : T C m led (execs [] env) Q := r_pure h
theorem r_Assign {x : Str} {pos' pos : Pos} {value : Expr} {Q : Flow → Loc → Led → Prop} (h : T C m led (eval value env) fun v m1 l1 => T C m1 l1 (storeName env x v) fun _ => Q .next)
    (hs : swapsWith value (some (.Name x pos')) pos.line env = pure false := by rfl) : T C m led (exec (.Assign [.Name x pos'] value pos) env) Q :=
  fun s P => wpAny_Assign_Name (h.run P fun v s1 m1 l1 P1 h1 => h1 s1 P1) hs
theorem r_AssignSub {o i value : Expr} {pos' pos : Pos} {Q : Flow → Loc → Led → Prop}
    (h : T C m led (eval value env) fun v m1 l1 => T C m1 l1 (eval o env) fun ov m2 l2 => T C m2 l2 (eval i env) fun iv m3 l3 => T C m3 l3 (setItem ov iv v) fun _ => Q .next)
    (hs : swapsWith value (some (.Subscript o i pos')) pos.line env = pure false := by rfl) : T C m led (exec (.Assign [.Subscript o i pos'] value pos) env) Q :=
  fun s P => wpAny_Assign_Subscript (h.run P fun v s1 m1 l1 P1 h1 => h1.run P1 fun ov s2 m2 l2 P2 h2 => h2.run P2 fun iv s3 m3 l3 P3 h3 => h3 s3 P3) hs
theorem r_AssignAttr {o value : Expr} {attr : Str} {pos' pos : Pos} {Q : Flow → Loc → Led → Prop}
    (h : T C m led (eval value env) fun v m1 l1 => T C m1 l1 (eval o env) fun ov m2 l2 => T C m2 l2 (setAttr ov attr v) fun _ => Q .next)
    (hs : swapsWith value (some (.Attribute o attr pos')) pos.line env = pure false := by rfl) : T C m led (exec (.Assign [.Attribute o attr pos'] value pos) env) Q :=
  fun s P => plainObj_wpAny_Assign_Attribute (h.run P fun v s1 m1 l1 P1 h1 => h1.run P1 fun ov s2 m2 l2 P2 h2 => h2 s2 P2) hs
theorem r_AugName {x : Str} {pos' pos : Pos} {op : Operator} {value : Expr} {Q : Flow → Loc → Led → Prop}
    (h : T C m led (loadName env x) fun old m1 l1 => T C m1 l1 (eval value env) fun v m2 l2 => T C m2 l2 (inplaceOp op old v) fun r m3 l3 => T C m3 l3 (storeName env x r) fun _ => Q .next) :
    T C m led (exec (.AugAssign (.Name x pos') op value pos) env) Q :=
  fun s P => wpAny_AugAssign_Name (h.run P fun v s1 m1 l1 P1 h1 => h1.run P1 fun ov s2 m2 l2 P2 h2 => h2.run P2 fun iv s3 m3 l3 P3 h3 => h3 s3 P3)
theorem r_If {test : Expr} {body orelse : List Stmt} {pos : Pos} {Q : Flow → Loc → Led → Prop}
    (h : T C m led (isTrue test env (eval test env)) fun b m1 l1 => if b = true then T C m1 l1 (execs body env) Q else T C m1 l1 (execs orelse env) Q) : T C m led (exec (.If test body orelse pos) env) Q :=
  fun s P => wpAny_If (h.run P fun b s1 m1 l1 P1 h1 => by cases b <;> simp at h1 ⊢ <;> exact h1 s1 P1)
theorem r_Ret {e : Expr} {pos : Pos} {Q : Flow → Loc → Led → Prop} (h : T C m led (eval e env) fun v => Q (.ret v)) : T C m led (exec (.Return (some e) pos) env) Q :=
  fun s P => wpAny_Return_some (h s P)
theorem r_RetNone {pos : Pos} {Q : Flow → Loc → Led → Prop} (h : Q (.ret .none) m led) : T C m led (exec (.Return none pos) env) Q := fun s P => wpAny_Return_none ⟨m, led, P, h⟩
theorem r_Break {pos : Pos} {Q : Flow → Loc → Led → Prop} (h : Q .brk m led) : T C m led (exec (.Break pos) env) Q := fun s P _ _ _ => ⟨m, led, P, h⟩
theorem r_Continue {pos : Pos} {Q : Flow → Loc → Led → Prop} (h : Q .cont m led) : T C m led (exec (.Continue pos) env) Q := fun s P _ _ _ => ⟨m, led, P, h⟩
theorem iteB {b : Bool} {X Y : Prop} (h1 : b = true → X) (h2 : b = false → Y) : if b = true then X else Y := by
  cases b
  · exact h2 rfl
  · exact h1 rfl
theorem r_BinOp {l r : Expr} {op : Operator} {pos : Pos} {Q : Value → Loc → Led → Prop}
    (h : T C m led (eval l env) fun a m1 l1 => T C m1 l1 (eval r env) fun b m2 l2 => T C m2 l2 (binaryOp op a b) Q) : T C m led (eval (.BinOp l op r pos) env) Q :=
  fun s P => wpAny_BinOp (h.run P fun v s1 m1 l1 P1 h1 => h1.run P1 fun ov s2 m2 l2 P2 h2 => h2 s2 P2)
theorem r_Cmp {l r : Expr} {op : CmpOp} {pos : Pos} {Q : Value → Loc → Led → Prop}
    (h : T C m led (eval l env) fun a m1 l1 => T C m1 l1 (eval r env) fun b m2 l2 => T C m2 l2 (compareOp op a b) Q) (hm : behindInMarks op r = false := by with_unfolding_all rfl) : T C m led (eval (.Compare l [op] [r] pos) env) Q :=
  fun s P => wpAny_Compare1 (h.run P fun v s1 m1 l1 P1 h1 => h1.run P1 fun ov s2 m2 l2 P2 h2 => h2 s2 P2) hm
theorem r_isCmp {l r : Expr} {op : CmpOp} {pos : Pos} {whole : Sem Value} {Q : Bool → Loc → Led → Prop}
    (h : T C m led (eval l env) fun a m1 l1 => T C m1 l1 (eval r env) fun b m2 l2 => T C m2 l2 (compareOp op a b) fun c m3 l3 => T C m3 l3 (truthy c) Q) (hm : behindInMarks op r = false := by with_unfolding_all rfl) :
    T C m led (isTrue (.Compare l [op] [r] pos) env whole) Q :=
  fun s P => wpAny_isTrue_Compare1 (h.run P fun v s1 m1 l1 P1 h1 => h1.run P1 fun ov s2 m2 l2 P2 h2 => h2.run P2 fun c s3 m3 l3 P3 h3 => h3 s3 P3) hm
theorem r_isNot {x : Expr} {pos : Pos} {whole : Sem Value} {Q : Bool → Loc → Led → Prop} (h : T C m led (isTrue x env (eval x env)) fun c => Q (!c)) : T C m led (isTrue (.UnaryOp .Not x pos) env whole) Q :=
  fun s P => isTrue_not (h s P)
theorem r_isAnd {x : Expr} {rest : List Expr} {pos : Pos} {whole : Sem Value} {Q : Bool → Loc → Led → Prop}
    (h : T C m led (isTrue x env (eval x env)) fun c m1 l1 => if c = true then T C m1 l1 (isTrue (.BoolOp .And rest pos) env whole) Q else Q false m1 l1) : T C m led (isTrue (.BoolOp .And (x :: rest) pos) env whole) Q :=
  fun s P => isTrue_and (h.run P fun c s1 m1 l1 P1 h1 => by cases c <;> simp at h1 ⊢ <;> first | exact h1 s1 P1 | exact ⟨m1, l1, P1, h1⟩)
theorem r_isOr {x : Expr} {rest : List Expr} {pos : Pos} {whole : Sem Value} {Q : Bool → Loc → Led → Prop}
    (h : T C m led (isTrue x env (eval x env)) fun c m1 l1 => if c = true then Q true m1 l1 else T C m1 l1 (isTrue (.BoolOp .Or rest pos) env whole) Q) : T C m led (isTrue (.BoolOp .Or (x :: rest) pos) env whole) Q :=
  fun s P => isTrue_or (h.run P fun c s1 m1 l1 P1 h1 => by cases c <;> simp at h1 ⊢ <;> first | exact h1 s1 P1 | exact ⟨m1, l1, P1, h1⟩)
theorem r_isAndNil {pos : Pos} {whole : Sem Value} {Q : Bool → Loc → Led → Prop} (h : Q true m led) : T C m led (isTrue (.BoolOp .And [] pos) env whole) Q := fun s P => isTrue_and_nil ⟨m, led, P, h⟩
theorem r_isOrNil {pos : Pos} {whole : Sem Value} {Q : Bool → Loc → Led → Prop} (h : Q false m led) : T C m led (isTrue (.BoolOp .Or [] pos) env whole) Q := fun s P => isTrue_or_nil ⟨m, led, P, h⟩
theorem r_isPlain {e : Expr} {whole : Sem Value} {Q : Bool → Loc → Led → Prop} (h : T C m led whole fun v m1 l1 => T C m1 l1 (truthy v) Q)
    (he : isTrue e env whole = (do let v ← whole; standAt e.pos; holding [v] (truthy v)) := by rfl) : T C m led (isTrue e env whole) Q :=
  fun s P => isTrue_plain (h.run P fun v s1 m1 l1 P1 h1 => h1 s1 P1) he
theorem r_And {e₁ e₂ : Expr} {rest : List Expr} {pos : Pos} {Q : Value → Loc → Led → Prop}
    (h : T C m led (eval e₁ env) fun v m1 l1 => T C m1 l1 (truthy v) fun c m2 l2 => if c = true then T C m2 l2 (eval (.BoolOp .And (e₂ :: rest) pos) env) Q else Q v m2 l2) : T C m led (eval (.BoolOp .And (e₁ :: e₂ :: rest) pos) env) Q :=
  fun s P => BoolOp_and (h.run P fun v s1 m1 l1 P1 h1 => h1.run P1 fun c s2 m2 l2 P2 h2 => by cases c <;> simp at h2 ⊢ <;> first | exact h2 s2 P2 | exact ⟨m2, l2, P2, h2⟩)
theorem r_Or {e₁ e₂ : Expr} {rest : List Expr} {pos : Pos} {Q : Value → Loc → Led → Prop}
    (h : T C m led (eval e₁ env) fun v m1 l1 => T C m1 l1 (truthy v) fun c m2 l2 => if c = true then Q v m2 l2 else T C m2 l2 (eval (.BoolOp .Or (e₂ :: rest) pos) env) Q) : T C m led (eval (.BoolOp .Or (e₁ :: e₂ :: rest) pos) env) Q :=
  fun s P => BoolOp_or (h.run P fun v s1 m1 l1 P1 h1 => h1.run P1 fun c s2 m2 l2 P2 h2 => by cases c <;> simp at h2 ⊢ <;> first | exact h2 s2 P2 | exact ⟨m2, l2, P2, h2⟩)
theorem r_BoolOne {op : BoolOp} {e : Expr} {pos : Pos} {Q : Value → Loc → Led → Prop} (h : T C m led (eval e env) Q) : T C m led (eval (.BoolOp op [e] pos) env) Q := fun s P => BoolOp_one (h s P)
theorem r_IfExp {test body orelse : Expr} {pos : Pos} {Q : Value → Loc → Led → Prop}
    (h : T C m led (isTrue test env (eval test env)) fun c m1 l1 => if c = true then T C m1 l1 (eval body env) Q else T C m1 l1 (eval orelse env) Q) : T C m led (eval (.IfExp test body orelse pos) env) Q :=
  fun s P => IfExp_ (h.run P fun c s1 m1 l1 P1 h1 => by cases c <;> simp at h1 ⊢ <;> exact h1 s1 P1)
theorem r_Unary {op : UnaryOp} {x : Expr} {pos : Pos} {Q : Value → Loc → Led → Prop} (h : T C m led (eval x env) fun v m1 l1 => T C m1 l1 (unaryOp op v) Q) : T C m led (eval (.UnaryOp op x pos) env) Q :=
  fun s P => UnaryOp_ (h.run P fun v s1 m1 l1 P1 h1 => h1 s1 P1)
theorem r_not {v : Value} {Q : Value → Loc → Led → Prop} (h : T C m led (truthy v) fun c => Q (.bool (!c))) : T C m led (unaryOp .Not v) Q := fun s P => not_of (h s P)
theorem r_local {x : Str} {pos : Pos} {v : Value} {Q : Value → Loc → Led → Prop} (hL : env.locals = C.L) (hk : env.scope.kind = .function) (hl : env.kindOf x = some .local) (hv : m x = some v) (h : Q v m led)
    (hd : (x == ("__debug__" : Str)) = false := by decide) : T C m led (eval (.Name x pos) env) Q :=
  fun s P => wpAny_Name (wpAny_loadName_local hk hl (hL ▸ P.ns) hv ⟨m, led, P, h⟩) hd
theorem r_loadLocal {x : Str} {v : Value} {Q : Value → Loc → Led → Prop} (hL : env.locals = C.L) (hk : env.scope.kind = .function) (hl : env.kindOf x = some .local) (hv : m x = some v) (h : Q v m led) :
    T C m led (loadName env x) Q := fun s P => wpAny_loadName_local hk hl (hL ▸ P.ns) hv ⟨m, led, P, h⟩
theorem r_global {x : Str} {pos : Pos} {v : Value} {Q : Value → Loc → Led → Prop} (hk : env.scope.kind = .function) (hx : env.kindOf x = some .globalImplicit) (hg : env.globals = mainGlobals)
    (e : nsIn (hd.heap_1 C.W.w.params) mainGlobals x = some (some v)) (h : Q v m led) (hd : (x == ("__debug__" : Str)) = false := by decide) : T C m led (eval (.Name x pos) env) Q :=
  fun s P => Calls.Name_function_global hk hx (Calls.loadGlobal_global (env := env) (hg ▸ P.T.g) (mg_of P.X P.T.g e) ⟨m, led, P, h⟩) hd
theorem r_builtin {x : Str} {pos : Pos} {v : Value} {Q : Value → Loc → Led → Prop} (hk : env.scope.kind = .function) (hx : env.kindOf x = some .globalImplicit) (hg : env.globals = mainGlobals) (hb : env.builtins = builtinsNs)
    (e : nsIn (hd.heap_1 C.W.w.params) mainGlobals x = some none) (hv : bootBuiltins x = some v) (hn : x ≠ "__name__") (h : Q v m led) (hd : (x == ("__debug__" : Str)) = false := by decide) : T C m led (eval (.Name x pos) env) Q :=
  fun s P => Calls.Name_function_global hk hx (Calls.loadGlobal_builtin (env := env) (hg ▸ P.T.g) (mg_none_of P.X P.T.g e) (hb ▸ P.T.b) ((P.T.builtins x hn).trans hv) ⟨m, led, P, h⟩) hd
theorem r_store {x : Str} {v : Value} {Q : Unit → Loc → Led → Prop} (hL : env.locals = C.L) (hk : env.scope.kind = .function) (hl : env.kindOf x = some .local) (h : Q () (upd m x v) led) : T C m led (storeName env x v) Q :=
  fun s P => wpAny_storeName_local hl (hL ▸ P.ns) (fun h' hn hs => ⟨_, led, P.setNs (hL ▸ hn) (hL ▸ hs) _, h⟩) (by rw [hk]; rfl)
theorem r_int {i : Int} {kk : Nat} {pos : Pos} {Q : Value → Loc → Led → Prop} (h : ∀ t, Q (.int i t) m led) : T C m led (eval (.Constant (.int i) kk pos) env) Q := fun s P => wpAny_mkInt ⟨m, led, P.tk _, h _⟩
theorem r_str {x : Str} {kk : Nat} {pos : Pos} {Q : Value → Loc → Led → Prop} (h : ∀ t, Q (.str x t) m led) : T C m led (eval (.Constant (.str x) kk pos) env) Q := fun s P => wpAny_mkText ⟨m, led, P.tk _, h _⟩
theorem r_bool {b : Bool} {kk : Nat} {pos : Pos} {Q : Value → Loc → Led → Prop} (h : Q (.bool b) m led) : T C m led (eval (.Constant (.bool b) kk pos) env) Q := fun s P => wpAny_pure ⟨m, led, P, h⟩
theorem r_none {kk : Nat} {pos : Pos} {Q : Value → Loc → Led → Prop} (h : Q .none m led) : T C m led (eval (.Constant .none kk pos) env) Q := fun s P => wpAny_pure ⟨m, led, P, h⟩
section
variable {a b : Int} {t u : Tok} {Q : Value → Loc → Led → Prop}
theorem r_add (h : ∀ t', Q (.int (a + b) t') m led) : T C m led (binaryOp .Add (.int a t) (.int b u)) Q := fun s P => PyProof.Rows.add_int ⟨m, led, P.tk _, h _⟩
theorem r_sub (h : ∀ t', Q (.int (a - b) t') m led) : T C m led (binaryOp .Sub (.int a t) (.int b u)) Q := fun s P => sub_int' ⟨m, led, P.tk _, h _⟩
theorem r_mul (hm : IntMulOk a b) (h : ∀ t', Q (.int (a * b) t') m led) : T C m led (binaryOp .Mult (.int a t) (.int b u)) Q := fun s P => mul_int ⟨m, led, P.tk _, h _⟩ hm
theorem r_fdiv (hb : b ≠ 0) (hp : Builtin.divisionGoesByPylong a b = false) (h : ∀ t', Q (.int (a.fdiv b) t') m led) : T C m led (binaryOp .FloorDiv (.int a t) (.int b u)) Q := fun s P => floordiv_int hb ⟨m, led, P.tk _, h _⟩ (.inl hp)
theorem r_mod (hb : b ≠ 0) (h : ∀ t', Q (.int (a.fmod b) t') m led) : T C m led (binaryOp .Mod (.int a t) (.int b u)) Q := fun s P => mod_int' hb ⟨m, led, P.tk _, h _⟩
theorem r_pow (hn : 0 ≤ b) (hn2 : b ≤ 1000000) (ha : a.natAbs < 2 ^ 64) (h : ∀ t', Q (.int (a ^ b.toNat) t') m led) : T C m led (binaryOp .Pow (.int a t) (.int b u)) Q := fun s P => pow_int_small hn hn2 ha ⟨m, led, P.tk _, h _⟩
theorem r_band (h : ∀ t', Q (.int (Builtin.bitAnd a b) t') m led) : T C m led (binaryOp .BitAnd (.int a t) (.int b u)) Q := fun s P => and_int ⟨m, led, P.tk _, h _⟩
theorem r_bor (h : ∀ t', Q (.int (Builtin.bitOr a b) t') m led) : T C m led (binaryOp .BitOr (.int a t) (.int b u)) Q := fun s P => or_int ⟨m, led, P.tk _, h _⟩
theorem r_bxor (h : ∀ t', Q (.int (Builtin.bitXor a b) t') m led) : T C m led (binaryOp .BitXor (.int a t) (.int b u)) Q := fun s P => xor_int ⟨m, led, P.tk _, h _⟩
theorem r_eqI (h : Q (.bool (a == b)) m led) : T C m led (compareOp .Eq (.int a t) (.int b u)) Q := fun s P => PyProof.Rows.eq_int ⟨m, led, P, h⟩
theorem r_neI (h : Q (.bool (a != b)) m led) : T C m led (compareOp .NotEq (.int a t) (.int b u)) Q := fun s P => PyProof.Rows.ne_int ⟨m, led, P, h⟩
theorem r_ltI (h : Q (.bool (decide (a < b))) m led) : T C m led (compareOp .Lt (.int a t) (.int b u)) Q := fun s P => PyProof.Rows.lt_int ⟨m, led, P, h⟩
theorem r_gtI (h : Q (.bool (decide (b < a))) m led) : T C m led (compareOp .Gt (.int a t) (.int b u)) Q := fun s P => PyProof.Rows.gt_int ⟨m, led, P, h⟩
theorem r_geI (h : Q (.bool (decide (b ≤ a))) m led) : T C m led (compareOp .GtE (.int a t) (.int b u)) Q := fun s P => ge_int ⟨m, led, P, h⟩
theorem r_tBool {c : Bool} {Q : Bool → Loc → Led → Prop} (h : Q c m led) : T C m led (truthy (.bool c)) Q := fun s P => wpAny_truthy_bool ⟨m, led, P, h⟩
theorem r_tInt {Q : Bool → Loc → Led → Prop} (h : Q (a != 0) m led) : T C m led (truthy (.int a t)) Q := fun s P => PyProof.Rows.truthy_int ⟨m, led, P, h⟩
theorem r_tNone {Q : Bool → Loc → Led → Prop} (h : Q false m led) : T C m led (truthy .none) Q := fun s P => PyProof.Rows.truthy_none ⟨m, led, P, h⟩
end
theorem r_argNil {pos : Pos} {Q : List Value → Loc → Led → Prop} (h : Q [] m led) : T C m led (spliced (backTo pos (starEach [] env))) Q := fun s P => spliced_none ⟨m, led, P, h⟩
theorem r_argCons {e : Expr} {rest : List Expr} {pos : Pos} {Q : List Value → Loc → Led → Prop}
    (h : T C m led (eval e env) fun v m1 l1 => T C m1 l1 (spliced (backTo pos (starEach rest env))) fun vs => Q (v :: vs)) (he : starEach (e :: rest) env = (false, eval e env) :: starEach rest env := by rfl) :
    T C m led (spliced (backTo pos (starEach (e :: rest) env))) Q :=
  fun s P => spliced_more (h.run P fun v s1 m1 l1 P1 h1 => h1 s1 P1) he
theorem r_Tuple {elts : List Expr} {k : Nat} {pos : Pos} {Q : Value → Loc → Led → Prop} (h : T C m led (spliced (backTo pos (starEach elts env))) fun vs m1 l1 => T C m1 l1 (newTuple vs) Q) : T C m led (eval (.Tuple elts k pos) env) Q :=
  fun s P => Tuple_ (h.run P fun v s1 m1 l1 P1 h1 => h1 s1 P1)
theorem r_List {elts : List Expr} {pos : Pos} {Q : Value → Loc → Led → Prop} (h : T C m led (spliced (backTo pos (starEach elts env))) fun vs m1 l1 => T C m1 l1 (newList vs) Q) : T C m led (eval (.List elts pos) env) Q :=
  fun s P => List_ (h.run P fun v s1 m1 l1 P1 h1 => h1 s1 P1)
theorem r_newTuple {vs : List Value} {Q : Value → Loc → Led → Prop} (hz : vs.length ≤ sizeLine) (h : ∀ a, Q (.ref a) m ((a, { cls := .type "tuple", data := .seq vs.toArray }) :: led)) : T C m led (newTuple vs) Q :=
  fun s P => wpAny_newObj_type ⟨m, _, P.alloc _, h _⟩ (by show vs.toArray.size ≤ sizeLine; rw [List.size_toArray]; exact hz)
theorem r_newList {vs : List Value} {Q : Value → Loc → Led → Prop} (hz : vs.length ≤ sizeLine) (h : ∀ a, Q (.ref a) m ((a, { cls := .type "list", data := .seq vs.toArray }) :: led)) : T C m led (newList vs) Q :=
  fun s P => wpAny_newObj_type ⟨m, _, P.alloc _, h _⟩ (by show vs.toArray.size ≤ sizeLine; rw [List.size_toArray]; exact hz)
theorem r_Call {func : Expr} {args : List Expr} {pos : Pos} {Q : Value → Loc → Led → Prop}
    (h : T C m led (eval func env) fun f m1 l1 => T C m1 l1 (callWith pos f [] (backTo pos (starEach args env)) []) Q)
    (he : eval (.Call func args [] pos) env = (do callWith pos (← eval func env) [] (backTo pos (starEach args env)) (backToKw pos (keywordEach [] env))) := by rfl) : T C m led (eval (.Call func args [] pos) env) Q :=
  fun s P => Call_ (h.run P fun v s1 m1 l1 P1 h1 => h1 s1 P1) he
theorem r_MCall {o : Expr} {name : Str} {apos pos : Pos} {args : List Expr} {pl : Sem Bool} {Q : Value → Loc → Led → Prop}
    (h : T C m led (eval o env) fun ov m1 l1 => T C m1 l1 (getMethod ov name pl) fun fx m2 l2 => T C m2 l2 (callWith pos fx.fst fx.snd (backTo pos (starEach args env)) []) Q)
    (he : eval (.Call (.Attribute o name apos) args [] pos) env = (do
        let ov ← eval o env
        standAt apos.atName
        let (f, first) ← holding [ov] (getMethod ov name pl)
        callWith pos f first (backTo pos (starEach args env)) []) := by rfl) : T C m led (eval (.Call (.Attribute o name apos) args [] pos) env) Q :=
  fun s P => MethodCall_ (h.run P fun v s1 m1 l1 P1 h1 => h1.run P1 fun fx s2 m2 l2 P2 h2 => h2 s2 P2) he
theorem r_cwK {pos : Pos} {f : Value} {first : List Value} {e : Expr} {rest : List Expr} {Q : Value → Loc → Led → Prop} (hf : keepIn (hd.heap_1 C.W.w.params) f = true)
    (h : T C m led (spliced (backTo pos (starEach (e :: rest) env))) fun vs m1 l1 => T C m1 l1 (call f (first ++ vs)) Q)
    (h1 : starEach (e :: rest) env = (false, eval e env) :: starEach rest env := by rfl) (h2 : (List.any (backTo pos (starEach rest env)) fun x => x.1) = false := by rfl) :
    T C m led (callWith pos f first (backTo pos (starEach (e :: rest) env)) []) Q :=
  fun s P => callWith_K (h₀ := C.W.h) C.W.X hf (h.run P fun v s1 m1 l1 P1 h1 => ⟨P1.X, h1 s1 P1⟩) h1 h2
theorem r_cwK0 {pos : Pos} {f : Value} {first : List Value} {Q : Value → Loc → Led → Prop} (hf : keepIn (hd.heap_1 C.W.w.params) f = true)
    (h : T C m led (call f (first ++ [])) Q) : T C m led (callWith pos f first (backTo pos (starEach [] env)) []) Q :=
  fun s P => callWith_K0 P.X hf (h s P)
theorem r_cwB {pos : Pos} {id : String} {first : List Value} {e : Expr} {rest : List Expr} {Q : Value → Loc → Led → Prop}
    (h : T C m led (spliced (backTo pos (starEach (e :: rest) env))) fun vs m1 l1 => T C m1 l1 (call (.builtin id) (first ++ vs)) Q)
    (h1 : starEach (e :: rest) env = (false, eval e env) :: starEach rest env := by rfl) (h2 : (List.any (backTo pos (starEach rest env)) fun x => x.1) = false := by rfl) :
    T C m led (callWith pos (.builtin id) first (backTo pos (starEach (e :: rest) env)) []) Q :=
  fun s P => callWith_method1 (h.run P fun v s1 m1 l1 P1 h1 => h1 s1 P1) h1 h2
theorem r_cwB0 {pos : Pos} {id : String} {first : List Value} {Q : Value → Loc → Led → Prop}
    (h : T C m led (call (.builtin id) first) Q) : T C m led (callWith pos (.builtin id) first (backTo pos (starEach [] env)) []) Q :=
  fun s P => callWith_method0 (h s P)
structure Room (C : Cx) (k : Nat) : Prop where
  d : C.A.depth + 2 * k < 1000
  u : C.A.units + 100 * k < 9900
  h : C.A.handled = none
theorem Room.le {k j : Nat} (R : Room C k) (h : j ≤ k) : Room C j := ⟨by have := R.d; omega, by have := R.u; omega, R.h⟩
abbrev Cx.e (C : Cx) (E' : Value → Shared → Prop) : Cx := ⟨C.W, C.A, E', C.β, C.L⟩
theorem Room.e {k : Nat} {E' : Value → Shared → Prop} (R : Room C k) : Room (C.e E') k := ⟨R.d, R.u, R.h⟩
theorem r_callDef {Q : Value → Loc → Led → Prop} {name qual : Str} {params : Arguments} {body : List Stmt} {scope : Scope} {dV kV doc pm cdv ct oc : Value} {an od : Option Addr} {osl : Array (Option Value)} {f : Addr} {args : List Value} {binds : List (Str × Value)} {k : Nat}
    (R : Room C (k + 1))
    (ho : (hd.heap_1 C.W.w.params).lookup f = some ⟨oc, od, .func (fnOf name qual params body scope dV kV doc pm an cdv ct), osl⟩) (hcd : codeIn (hd.heap_1 C.W.w.params) cdv qual = true)
    (hbind : bindArgs (fnOf name qual params body scope dV kV doc pm an cdv ct) ⟨args, []⟩ = pure binds) (hloc : (binds.all fun x => decide (scope.names.lookup x.1 = some .local)) = true)
    (hco : scope.isCoroutine = false) (hgen : scope.isGenerator = false) (hk : scope.kind = .function) (hcell : ∀ x ∈ scope.names, x.2 ≠ .cell)
    (h : ∀ A' E' β' L', Room ⟨C.W, A', E', β', L'⟩ k → Up C.β β' →
      T ⟨C.W, A', E', β', L'⟩ (fun y => binds.reverse.lookup y) led (execs body (envOf qual scope L' f cdv)) fun fl _ led' => ∃ l', List.Sublist l' led' ∧ Q (retv fl) m l') : T C m led (call (.ref f) args) Q :=
  fun s P => call_def P ho hcd (by have := R.d; unfold recursionLimit; omega) (BindsTo.of_eq hbind) (locs hloc) hco hgen hk hcell fun β' L' s' P' up back =>
    (h (C.A.deeper (envOf qual scope L' f cdv)) (fun e s'' => wpAny (Mo C.W) (C.A.deeper (envOf qual scope L' f cdv)) (leaving (envOf qual scope L' f cdv) e) (fun _ s3 => C.E e s3) (fun e' s3 => C.E e' s3) s'') β' L'
      ⟨by have := R.d; show C.A.depth + 1 + 2 * k < 1000; omega, by have := R.u; show C.A.units + 3 + 100 * k < 9900; omega, R.h⟩ up).run P' fun fl s'' m'' led'' P'' ⟨l', hs, hq⟩ => ⟨m, l', (back _ _ _ P'').drop hs, hq⟩
theorem runE {t : Sem α} {E' : Value → Shared → Prop} {Q : α → Loc → Led → Prop} {Q' : α → Shared → Prop} {s : Shared} (P : Pt C.W C.β C.L m led s) (h : T (C.e E') m led t Q)
    (k : ∀ a s' m' led', Pt C.W C.β C.L m' led' s' → Q a m' led' → Q' a s') : wpAny (Mo C.W) C.A t Q' E' s := T.run (C := C.e E') h P k
def Turn (J : Nat → Loc → Led → Prop) (n : Nat) (Q : Flow → Loc → Led → Prop) (f : Flow) (m : Loc) (led : Led) : Prop :=
  match f with
  | .next | .cont => ∃ l' k, List.Sublist l' led ∧ k < n ∧ J k m l'
  | .brk => Q .next m led
  | .ret v => Q (.ret v) m led
theorem Turn.next {J : Nat → Loc → Led → Prop} {n : Nat} {Q : Flow → Loc → Led → Prop} (l' : Led) (k : Nat) (hs : List.Sublist l' led) (hk : k < n) (h : J k m l') : Turn J n Q .next m led := ⟨l', k, hs, hk, h⟩
theorem Turn.cont {J : Nat → Loc → Led → Prop} {n : Nat} {Q : Flow → Loc → Led → Prop} (l' : Led) (k : Nat) (hs : List.Sublist l' led) (hk : k < n) (h : J k m l') : Turn J n Q .cont m led := ⟨l', k, hs, hk, h⟩
theorem Turn.brk {J : Nat → Loc → Led → Prop} {n : Nat} {Q : Flow → Loc → Led → Prop} (h : Q .next m led) : Turn J n Q .brk m led := h
theorem Turn.ret {J : Nat → Loc → Led → Prop} {n : Nat} {Q : Flow → Loc → Led → Prop} {v : Value} (h : Q (.ret v) m led) : Turn J n Q (.ret v) m led := h
theorem r_For {target iter : Expr} {body orelse : List Stmt} {pos : Pos} {Q : Flow → Loc → Led → Prop}
    (h : T C m led (eval iter env) fun x m1 l1 => T C m1 l1 (pyIter x) fun it m2 l2 => ∃ (J : Nat → Loc → Led → Prop) (n : Nat), J n m2 l2 ∧ ∀ E' n m led, J n m led →
      T (C.e E') m led (pyNext it) fun r m1 l1 => match r with
        | none => T (C.e E') m1 l1 (execs orelse env) Q
        | some v => T (C.e E') m1 l1 (letOwnedTupleGo target it v) fun _ m1 l1 => T (C.e E') m1 l1 (assign target env v) fun _ m2 l2 => T (C.e E') m2 l2 (execs body env) (Turn J n Q))
    (hs : ∀ x, foldedSetIterable iter env x = pure x := by intro _; rfl) : T C m led (exec (.For target iter body orelse pos) env) Q := fun s P => by
  refine wpAny_For (h.run P fun x s1 m1 l1 P1 h1 => h1.run P1 fun it s2 m2 l2 P2 ⟨J, n, hJ, turn⟩ => ?_) hs
  refine codeAny_forLoop_any (fun n s' => ∃ m' l', Pt C.W C.β C.L m' l' s' ∧ J n m' l') (fun n s' ⟨m', l', P', hj⟩ => ?_) n ⟨m2, l2, P2, hJ⟩
  refine runE P' (turn _ n m' l' hj) fun r s3 m3 l3 P3 h3 => ?_
  cases r with
  | none => exact runE P3 h3 fun f s4 m4 l4 P4 h4 => ⟨m4, l4, P4, h4⟩
  | some v =>
    refine runE P3 h3 fun _ s4 m4 l4 P4 h4 => runE P4 h4 fun _ s5 m5 l5 P5 h5 => runE P5 h5 fun f s6 m6 l6 P6 h6 => ?_
    cases f with
    | next => obtain ⟨l', k, hs', hk, hq⟩ := h6; exact ⟨k, hk, m6, l', P6.drop hs', hq⟩
    | cont => obtain ⟨l', k, hs', hk, hq⟩ := h6; exact ⟨k, hk, m6, l', P6.drop hs', hq⟩
    | brk => exact ⟨m6, l6, P6, h6⟩
    | ret v => exact ⟨m6, l6, P6, h6⟩
theorem r_While {test : Expr} {body orelse : List Stmt} {pos : Pos} {Q : Flow → Loc → Led → Prop} (J : Nat → Loc → Led → Prop) (n : Nat) (h0 : J n m led)
    (turn : ∀ E' n m led, J n m led → T (C.e E') m led (isTrue test env (eval test env)) fun b m1 l1 => if b = true then T (C.e E') m1 l1 (execs body env) (Turn J n Q) else T (C.e E') m1 l1 (execs orelse env) Q) :
    T C m led (exec (.While test body orelse pos) env) Q := fun s P => by
  refine wpAny_While (codeAny_whileLoop (fun n s' => ∃ m' l', Pt C.W C.β C.L m' l' s' ∧ J n m' l') (fun n s' ⟨m', l', P', hj⟩ => ?_) n ⟨m, led, P, h0⟩)
  refine runE P' (turn _ n m' l' hj) fun b s3 m3 l3 P3 h3 => ?_
  cases b with
  | false => simp only [Bool.false_eq_true, if_false] at h3 ⊢; exact runE P3 h3 fun f s4 m4 l4 P4 h4 => ⟨m4, l4, P4, h4⟩
  | true =>
    simp only [if_true] at h3 ⊢
    refine runE P3 h3 fun f s6 m6 l6 P6 h6 => ?_
    cases f with
    | next => obtain ⟨l', k, hs', hk, hq⟩ := h6; exact ⟨k, hk, m6, l', P6.drop hs', hq⟩
    | cont => obtain ⟨l', k, hs', hk, hq⟩ := h6; exact ⟨k, hk, m6, l', P6.drop hs', hq⟩
    | brk => exact ⟨m6, l6, P6, h6⟩
    | ret v => exact ⟨m6, l6, P6, h6⟩
theorem r_asName {x : Str} {pos : Pos} {v : Value} {Q : Unit → Loc → Led → Prop} (h : T C m led (storeName env x v) Q) : T C m led (assign (.Name x pos) env v) Q := fun s P => wpAny_assign_Name (h s P)
theorem r_letName {x : Str} {pos : Pos} {it v : Value} {Q : Unit → Loc → Led → Prop} (h : Q () m led) : T C m led (letOwnedTupleGo (.Name x pos) it v) Q := r_pure h
def Has (C : Cx) (led : Led) (a : Addr) (o : Obj) : Prop := (a, o) ∈ led ∨ C.W.h.get? a = some o
theorem Has.get {s : Shared} {a : Addr} {o : Obj} (h : Has C led a o) (P : Pt C.W C.β C.L m led s) : s.heap.get? a = some o := h.elim (fun e => P.get e) (fun e => P.all _ _ e)
theorem Has.head {a : Addr} {o : Obj} {led : Led} : Has C ((a, o) :: led) a o := .inl List.mem_cons_self
theorem Has.tail {a : Addr} {o : Obj} {p : Addr × Obj} {led : Led} (h : Has C led a o) : Has C (p :: led) a o := h.imp (List.mem_cons_of_mem _) id
theorem Has.sub {a : Addr} {o : Obj} {led led' : Led} (h : Has C led a o) (hs : ∀ p ∈ led, p ∈ led') : Has C led' a o := h.imp (hs _) id
theorem Has.up {A' : Around} {E' : Value → Shared → Prop} {β' : Addr → Option Obj} {L' : Addr} {a : Addr} {o : Obj} (h : Has C led a o) (hu : Up C.β β') : Has ⟨C.W, A', E', β', L'⟩ led a o := h
theorem Has.e {E' : Value → Shared → Prop} {a : Addr} {o : Obj} (h : Has C led a o) : Has (C.e E') led a o := h
abbrev listO (vs : List Value) (n : Nat) : Obj := { cls := .type "list", data := .seq vs.toArray n }
abbrev tupO (vs : List Value) : Obj := { cls := .type "tuple", data := .seq vs.toArray }
abbrev liO (l : Addr) (i : Nat) : Obj := { cls := .type "list_iterator", data := .fields #[.ref l, .int i 0] }
theorem Has.isList {s : Shared} {a : Addr} {vs : List Value} {n : Nat} (h : Has C led a (listO vs n)) (P : Pt C.W C.β C.L m led s) : s.heap.IsList a vs.toArray := ⟨_, h.get P, rfl, n, rfl⟩
theorem Has.isTup {s : Shared} {a : Addr} {vs : List Value} (h : Has C led a (tupO vs)) (P : Pt C.W C.β C.L m led s) : IsTup s.heap a vs.toArray := ⟨_, h.get P, rfl, _, rfl⟩
theorem r_iterList {l : Addr} {vs : List Value} {n : Nat} {Q : Value → Loc → Led → Prop} (hl : Has C led l (listO vs n)) (h : ∀ it, l ≠ it → Q (.ref it) m ((it, liO l 0) :: led)) : T C m led (pyIter (.ref l)) Q :=
  fun s P => wpAny_pyIter_list (hl.isList P) ⟨m, _, P.alloc _, h _ (Nat.ne_of_lt (Heap.lt_size (hl.get P)))⟩
end
end
section
section
variable {W : Wd} {β : Addr → Option Obj} {L : Addr} {m : Str → Option Value} {led : List (Addr × Obj)} {s : Shared}
theorem Pt.moved {a : Addr} {o o' : Obj} {h' : Heap} (P : Pt W β L m ((a, o) :: led) s) (ho : h'.get? a = some o') (hk : ∀ b x, b ≠ a → s.heap.get? b = some x → h'.get? b = some x) (t : Nat) : Pt W β L m ((a, o') :: led) { s with heap := h', toks := t } := by
  have D := P.own (a, o) (by simp)
  obtain ⟨n1, n2⟩ := nodup_fst_ne (pre := []) P.nd
  obtain ⟨oL, es, ep, hL, r⟩ := P.ns
  refine ⟨P.base, P.keeps fun b x y q e => hk b x (fun z => ?_) e, P.off, ⟨oL, es, ep, hk _ _ (Ne.symm D.2.1) hL, r⟩, fun p hp => ?_, by simpa using P.nd, P.gens, P.os⟩
  · have := D.2.2; rw [← z, q] at this; cases this
  · rcases List.mem_cons.mp hp with rfl | hp
    · exact ⟨ho, D.2⟩
    · have R := P.own p (List.mem_cons_of_mem _ hp); exact ⟨hk _ _ (n2 p hp) R.1, R.2⟩
theorem Pt.gone {a : Addr} {o : Obj} {h' : Heap} (P : Pt W β L m ((a, o) :: led) s) (hk : ∀ b x, b ≠ a → s.heap.get? b = some x → h'.get? b = some x) (t : Nat) : Pt W β L m led { s with heap := h', toks := t } := by
  have D := P.own (a, o) (by simp)
  obtain ⟨n1, n2⟩ := nodup_fst_ne (pre := []) P.nd
  obtain ⟨oL, es, ep, hL, r⟩ := P.ns
  refine ⟨P.base, P.keeps fun b x y q e => hk b x (fun z => ?_) e, P.off, ⟨oL, es, ep, hk _ _ (Ne.symm D.2.1) hL, r⟩, fun p hp => ?_, (List.nodup_cons.mp (by simpa using P.nd)).2, P.gens, P.os⟩
  · have := D.2.2; rw [← z, q] at this; cases this
  · have R := P.own p (List.mem_cons_of_mem _ hp); exact ⟨hk _ _ (n2 p hp) R.1, R.2⟩
end
section
variable {C : Cx} {m : Loc} {led : Led} {env : Env}
structure IsIter (C : Cx) (I : Addr) (n : Nat) (items : Nat → Value → Led → Prop) (S : Nat → Obj → Prop) (dep : Led → Prop) : Prop where
  item : ∀ (E' : Value → Shared → Prop) i o m l (Q : Option Value → Loc → Led → Prop), i < n → S i o → dep l → (∀ v o' ex, items i v ex → S (i + 1) o' → Q (some v) m (ex ++ (I, o') :: l)) → T (C.e E') m ((I, o) :: l) (pyNext (.ref I)) Q
  done : ∀ (E' : Value → Shared → Prop) o m l (Q : Option Value → Loc → Led → Prop), S n o → dep l → Q none m l → T (C.e E') m ((I, o) :: l) (pyNext (.ref I)) Q
theorem isIter_of_walks {I : Addr} {fp : List Addr} {n : Nat} {P : Nat → Value → Prop} {St : Nat → Heap → Prop} {S : Nat → Obj → Prop} {dep : Led → Prop} (Wk : Walks PG C.W.w C.A I fp [I] n P St)
    (toS : ∀ i h, St i h → ∃ o, h.get? I = some o ∧ S i o) (ofS : ∀ i m l s o, Pt C.W C.β C.L m ((I, o) :: l) s → S i o → dep l → St i s.heap) : IsIter C I n (fun i v ex => P i v ∧ ex = []) S dep where
  item := fun E' i o m l Q hi hS hd h s Pp => by
    refine Wk.item i s _ _ hi (ofS i m l s o Pp hS hd) fun v h' tk hP hSt hk => ?_
    obtain ⟨o', ho', hS'⟩ := toS _ _ hSt
    exact ⟨m, _, Pp.moved ho' (fun b x hb e => hk b x (by simpa using hb) e) tk, h v o' [] ⟨hP, rfl⟩ hS'⟩
  done := fun E' o m l Q hS hd h s Pp => by
    refine Wk.done s _ _ (ofS n m l s o Pp hS hd) fun h' tk hk => ?_
    exact ⟨m, _, Pp.gone (fun b x hb e => hk b x (by simpa using hb) e) tk, h⟩
def LiO (l : Addr) (i : Nat) (o : Obj) : Prop := o.cls = .type "list_iterator" ∧ o.data = .fields #[.ref l, .int i 0]
theorem iter_list {I l : Addr} {vs : List Value} {n : Nat} (hh : C.A.handled = none) (hne : l ≠ I) : IsIter C I vs.length (fun i v ex => vs[i]? = some v ∧ ex = []) (LiO l) (fun led => Has C led l (listO vs n)) := by
  have Wk := Walks.list (prog := PG) (w := C.W.w) hh I l hne vs.toArray
  rw [List.size_toArray] at Wk
  have X := isIter_of_walks (S := LiO l) (dep := fun led => Has C led l (listO vs n)) Wk (fun i h st => let ⟨o, h1, h2, h3⟩ := st.1; ⟨o, h1, h2, h3⟩)
    (fun i m l' s o P hS hd => ⟨⟨o, P.get List.mem_cons_self, hS.1, hS.2⟩, (Has.tail hd).isList P⟩)
  exact ⟨fun E' i o m l Q hi hS hd h => X.item E' i o m l Q hi hS hd fun v o' ex hx => h v o' ex ⟨by simpa using hx.1, hx.2⟩, X.done⟩
structure FItOk (C : Cx) (env : Env) (target : Expr) (body orelse : List Stmt) (Q : Flow → Loc → Led → Prop) (it : Value) (m2 : Loc) (l2 : Led) (I : Addr) (n : Nat) (items : Nat → Value → Led → Prop) (S : Nat → Obj → Prop) (dep : Led → Prop) (o : Obj) (l3 : Led) (J : Nat → Loc → Led → Prop) : Prop where
  e1 : it = .ref I
  e2 : l2 = (I, o) :: l3
  X : IsIter C I n items S dep
  hS : S 0 o
  hdep : ∀ i m l, J i m l → dep l
  hJ : J 0 m2 l3
  turn : ∀ E' i v o' ex m l, i < n → items i v ex → S (i + 1) o' → J i m l → T (C.e E') m (ex ++ (I, o') :: l) (letOwnedTupleGo target (.ref I) v) fun _ m1 l1 => T (C.e E') m1 l1 (assign target env v) fun _ m2 l2 => T (C.e E') m2 l2 (execs body env) fun f m3 l3 =>
        match f with
        | .next | .cont => ∃ l', List.Sublist ((I, o') :: l') l3 ∧ J (i + 1) m3 l'
        | .brk => Q .next m3 l3
        | .ret r => Q (.ret r) m3 l3
  done : ∀ E' m l, J n m l → T (C.e E') m l (execs orelse env) Q
theorem r_ForIt {target iter : Expr} {body orelse : List Stmt} {pos : Pos} {Q : Flow → Loc → Led → Prop}
    (h : T C m led (eval iter env) fun x m1 l1 => T C m1 l1 (pyIter x) fun it m2 l2 => ∃ I n items S dep o l3 J, FItOk C env target body orelse Q it m2 l2 I n items S dep o l3 J)
    (hs : ∀ x, foldedSetIterable iter env x = pure x := by intro _; rfl) : T C m led (exec (.For target iter body orelse pos) env) Q := by
  refine r_For (h.mono fun x m1 l1 h1 => h1.mono fun it m2 l2 h2 => ?_) hs
  obtain ⟨I, n, items, S, dep, o, l3, J, F⟩ := h2
  obtain rfl := F.e1
  obtain rfl := F.e2
  refine ⟨fun k m l => ∃ i o l', k = n - i ∧ i ≤ n ∧ l = (I, o) :: l' ∧ S i o ∧ J i m l', n, ⟨0, o, l3, by omega, by omega, rfl, F.hS, F.hJ⟩, ?_⟩
  rintro E' k m' l' ⟨i, o, l4, rfl, hi, rfl, hS, hJ⟩
  by_cases hn : i < n
  · refine F.X.item E' i o m' l4 _ hn hS (F.hdep _ _ _ hJ) fun v o' ex hv hS' => ?_
    refine (F.turn E' i v o' ex m' l4 hn hv hS' hJ).mono fun _ m1 l1 h1 => h1.mono fun _ m2 l2 h2 => h2.mono fun f m3 l3 h3 => ?_
    cases f with
    | next => obtain ⟨l5, hs5, h5⟩ := h3; exact ⟨_, n - (i + 1), hs5, by omega, i + 1, o', l5, rfl, by omega, rfl, hS', h5⟩
    | cont => obtain ⟨l5, hs5, h5⟩ := h3; exact ⟨_, n - (i + 1), hs5, by omega, i + 1, o', l5, rfl, by omega, rfl, hS', h5⟩
    | brk => exact h3
    | ret r => exact h3
  · obtain rfl : i = n := by omega
    exact F.X.done E' o m' l4 _ hS (F.hdep _ _ _ hJ) (F.done E' m' l4 hJ)
def TurnF (I : Addr) (o : Obj) (J : Loc → Led → Prop) (Q : Flow → Loc → Led → Prop) (f : Flow) (m : Loc) (led : Led) : Prop :=
  match f with
  | .next | .cont => ∃ l', List.Sublist ((I, o) :: l') led ∧ J m l'
  | .brk => Q .next m led
  | .ret r => Q (.ret r) m led
theorem TurnF.next {I : Addr} {o : Obj} {J : Loc → Led → Prop} {Q : Flow → Loc → Led → Prop} (l' : Led) (hs : List.Sublist ((I, o) :: l') led) (h : J m l') : TurnF I o J Q .next m led := ⟨l', hs, h⟩
theorem TurnF.cont {I : Addr} {o : Obj} {J : Loc → Led → Prop} {Q : Flow → Loc → Led → Prop} (l' : Led) (hs : List.Sublist ((I, o) :: l') led) (h : J m l') : TurnF I o J Q .cont m led := ⟨l', hs, h⟩
theorem TurnF.brk {I : Addr} {o : Obj} {J : Loc → Led → Prop} {Q : Flow → Loc → Led → Prop} (h : Q .next m led) : TurnF I o J Q .brk m led := h
theorem TurnF.ret {I : Addr} {o : Obj} {J : Loc → Led → Prop} {Q : Flow → Loc → Led → Prop} {v : Value} (h : Q (.ret v) m led) : TurnF I o J Q (.ret v) m led := h
structure FLOk (C : Cx) (env : Env) (x : Str) (body orelse : List Stmt) (Q : Flow → Loc → Led → Prop) (v : Value) (m1 : Loc) (l1 : Led) (l : Addr) (vs : List Value) (n : Nat) (J : Nat → Loc → Led → Prop) : Prop where
  e : v = .ref l
  hl : Has C l1 l (listO vs n)
  hdep : ∀ i m l', J i m l' → Has C l' l (listO vs n)
  hJ : J 0 m1 l1
  turn : ∀ E' I o i v m l, vs[i]? = some v → J i m l → T (C.e E') m ((I, o) :: l) (storeName env x v) fun _ m2 l2 => T (C.e E') m2 l2 (execs body env) (TurnF I o (J (i + 1)) Q)
  done : ∀ E' m l, J vs.length m l → T (C.e E') m l (execs orelse env) Q
theorem r_ForList {x : Str} {px pos : Pos} {iter : Expr} {body orelse : List Stmt} {Q : Flow → Loc → Led → Prop} (hh : C.A.handled = none)
    (h : T C m led (eval iter env) fun v m1 l1 => ∃ l vs n J, FLOk C env x body orelse Q v m1 l1 l vs n J)
    (hs : ∀ x, foldedSetIterable iter env x = pure x := by intro _; rfl) : T C m led (exec (.For (.Name x px) iter body orelse pos) env) Q := by
  refine r_ForIt (h.mono fun v m1 l1 h1 => ?_) hs
  obtain ⟨l, vs, n, J, F⟩ := h1
  obtain rfl := F.e
  refine r_iterList F.hl fun it hne => ?_
  refine ⟨it, vs.length, _, _, _, _, l1, J, rfl, rfl, iter_list hh hne, ⟨rfl, rfl⟩, F.hdep, F.hJ, ?_, F.done⟩
  rintro E' i v o' ex m l' hi ⟨hv, rfl⟩ _ hj
  refine r_letName (r_asName ((F.turn E' it o' i v m l' hv hj).mono fun _ m2 l2 h2 => h2.mono fun f m3 l3 h3 => ?_))
  cases f <;> exact h3
end
end
section
section
variable {W : Wd} {β : Addr → Option Obj} {L : Addr} {m : Str → Option Value} {led : List (Addr × Obj)} {s : Shared}
theorem Pt.ext {h' : Heap} (P : Pt W β L m led s) (hk : ∀ b x, s.heap.get? b = some x → h'.get? b = some x) (t : Nat) : Pt W β L m led { s with heap := h', toks := t } :=
  ⟨P.base, P.keeps fun a o _ _ e => hk _ _ e, P.off, P.ns.keeps hk, fun p hp => ⟨hk _ _ (P.own p hp).1, (P.own p hp).2⟩, P.nd, P.gens, P.os⟩
theorem Pt.movedAt {pre post : List (Addr × Obj)} {a : Addr} {o o' : Obj} {h' : Heap} (P : Pt W β L m (pre ++ (a, o) :: post) s) (ho : h'.get? a = some o') (hk : ∀ b x, b ≠ a → s.heap.get? b = some x → h'.get? b = some x) (t : Nat) :
    Pt W β L m (pre ++ (a, o') :: post) { s with heap := h', toks := t } := by
  have e1 : List.Perm ((a, o) :: (pre ++ post)) (pre ++ (a, o) :: post) := List.perm_middle.symm
  have e2 : List.Perm (pre ++ (a, o') :: post) ((a, o') :: (pre ++ post)) := List.perm_middle
  exact ((P.perm e1).moved ho hk t).perm e2
end
section
variable {C : Cx} {m : Loc} {led : Led} {env : Env}
theorem r_Sub {value slice : Expr} {pos : Pos} {Q : Value → Loc → Led → Prop} (h : T C m led (eval value env) fun o m1 l1 => T C m1 l1 (eval slice env) fun i m2 l2 => T C m2 l2 (subscriptTail value slice o i) Q) :
    T C m led (eval (.Subscript value slice pos) env) Q := fun s P => Subscript_ (h.run P fun v s1 m1 l1 P1 h1 => h1.run P1 fun ov s2 m2 l2 P2 h2 => h2 s2 P2)
theorem r_itemList {value slice : Expr} {l : Addr} {vs : List Value} {n : Nat} {k : Int} {t : Tok} {x : Value} {Q : Value → Loc → Led → Prop} (hl : Has C led l (listO vs n)) (h0 : 0 ≤ k) (h1 : k < 2 ^ 63) (hx : vs[k.toNat]? = some x) (h : Q x m led)
    (hs : subscripted slice false (.ref l) (.int k t) = operate [.ref l, .int k t] (getItem (.ref l) (.int k t)) := by with_unfolding_all rfl) : T C m led (subscriptTail value slice (.ref l) (.int k t)) Q :=
  fun s P => tail_any (hl.isList P).typeIs slot_list_getitem.lookup (wpAny_getItem_list (hl.isList P) h0 h1 (by simpa using hx) ⟨m, led, P, h⟩) hs
theorem r_itemListNeg {value slice : Expr} {l : Addr} {vs : List Value} {n : Nat} {k : Int} {t : Tok} {x : Value} {Q : Value → Loc → Led → Prop} (hl : Has C led l (listO vs n)) (h0 : k < 0) (h1 : -(vs.length : Int) ≤ k) (h2 : -2 ^ 63 ≤ k) (hx : vs[(k + vs.length).toNat]? = some x) (h : Q x m led)
    (hs : subscripted slice false (.ref l) (.int k t) = operate [.ref l, .int k t] (getItem (.ref l) (.int k t)) := by with_unfolding_all rfl) : T C m led (subscriptTail value slice (.ref l) (.int k t)) Q :=
  fun s P => tail_any (hl.isList P).typeIs slot_list_getitem.lookup (wpAny_getItem_list_neg (hl.isList P) h0 (by simpa using h1) h2 (by simpa using hx) ⟨m, led, P, h⟩) hs
theorem r_itemStr {value slice : Expr} {x : Str} {t u : Tok} {i : Int} {Q : Value → Loc → Led → Prop} (hr : fitsSsize i = true) (h1 : -(x.length : Int) ≤ i) (h2 : i < x.length) (h : ∀ t', Q (.str (Txt.item x i) t') m led)
    (hs : subscripted slice false (.str x t) (.int i u) = operate [.str x t, .int i u] (getItem (.str x t) (.int i u)) := by with_unfolding_all rfl) (ht : ∀ r, letTemporaryGo value (.str x t) r = pure () := by intro _; with_unfolding_all rfl) :
    T C m led (subscriptTail value slice (.str x t) (.int i u)) Q := fun s P => PyProof.Rows.item_str hr h1 h2 (fun _ => ⟨m, led, P.tk _, h _⟩) hs ht
theorem r_Slice {lower upper step : Option Expr} {p : Pos} {Q : Value → Loc → Led → Prop}
    (h : T C m led (evalPart lower env) fun l m1 l1 => T C m1 l1 (evalPart upper env) fun u m2 l2 => T C m2 l2 (evalPart step env) fun st m3 l3 => ∀ a, Q (.ref a) m3 ((a, { cls := .type "slice", data := .fields #[l, u, st] }) :: l3)) :
    T C m led (eval (.Slice lower upper step p) env) Q :=
  fun s P => wpAny_Slice (h.run P fun v s1 m1 l1 P1 h1 => h1.run P1 fun ov s2 m2 l2 P2 h2 => h2.run P2 fun st s3 m3 l3 P3 h3 => ⟨m3, _, P3.alloc _, h3 _⟩)
theorem r_partNone {Q : Value → Loc → Led → Prop} (h : Q .none m led) : T C m led (evalPart none env) Q := r_pure h
theorem r_partSome {e : Expr} {Q : Value → Loc → Led → Prop} (h : T C m led (eval e env) Q) : T C m led (evalPart (some e) env) Q := h
theorem r_sliceList {value slice : Expr} {l sl : Addr} {vs : List Value} {n : Nat} {vl vu : Value} {lo hi : Option Int} {Q : Value → Loc → Led → Prop} (hl : Has C led l (listO vs n)) (hsl : Has C led sl { cls := .type "slice", data := .fields #[vl, vu, .none] })
    (pl : IsPart vl lo) (pu : IsPart vu hi) (hz : vs.length ≤ sizeLine) (h : ∀ a, Q (.ref a) m ((a, listO (slicePick vs.toArray lo hi none).toList 0) :: led))
    (hs : subscripted slice false (.ref l) (.ref sl) = operate [.ref sl, .ref l] (getItem (.ref l) (.ref sl)) := by with_unfolding_all rfl) : T C m led (subscriptTail value slice (.ref l) (.ref sl)) Q :=
  fun s P => tail_any (hl.isList P).typeIs slot_list_getitem.lookup (wpAny_getItem_list_slice (hl.isList P) ⟨_, hsl.get P, rfl, rfl⟩ pl pu .none (by simp) ⟨m, _, P.alloc _, by simpa using h s.heap.objs.size⟩ (by simpa using hz)) hs
theorem r_lenList {l : Addr} {vs : List Value} {n : Nat} {Q : Value → Loc → Led → Prop} (hl : Has C led l (listO vs n)) (hz : vs.length < 2 ^ 62) (h : ∀ t, Q (.int vs.length t) m led) : T C m led (call (.builtin "len") [.ref l]) Q :=
  fun s P => len_list (hl.isList P) (by simp; omega) ⟨m, led, P.tk _, by simpa using h _⟩
theorem r_lenTup {l : Addr} {vs : List Value} {Q : Value → Loc → Led → Prop} (hl : Has C led l (tupO vs)) (hz : vs.length < 2 ^ 62) (h : ∀ t, Q (.int vs.length t) m led) : T C m led (call (.builtin "len") [.ref l]) Q :=
  fun s P => len_tuple (hl.isTup P) (by simp; omega) ⟨m, led, P.tk _, by simpa using h _⟩
theorem r_lenStr {x : Str} {t : Tok} {Q : Value → Loc → Led → Prop} (hz : x.length < 2 ^ 62) (h : ∀ t, Q (.int x.length t) m led) : T C m led (call (.builtin "len") [.str x t]) Q :=
  fun s P => PyProof.Rows.len_str (by omega) ⟨m, led, P.tk _, h _⟩
theorem r_append {pre post : Led} {l : Addr} {vs : List Value} {n : Nat} {x : Value} {Q : Value → Loc → Led → Prop} (e : led = pre ++ (l, listO vs n) :: post) (hz : vs.length ≤ sizeLine) (h : ∀ n', Q .none m (pre ++ (l, listO (vs ++ [x]) n') :: post)) :
    T C m led (call (.builtin "list.append") [.ref l, x]) Q := by
  subst e
  exact fun s P => wpAny_list_append_plain (items := vs.toArray) ⟨n, P.get (by simp)⟩ (fun h' ⟨n', hl⟩ hs => ⟨m, _, P.movedAt (o' := listO (vs ++ [x]) n') (by simpa using hl) (fun b y hb e => hs.extBut b y hb e) s.toks, h n'⟩) (by simpa using hz)
theorem r_inListS {l : Addr} {vs : List Value} {ys : List Str} {n : Nat} {k : Str} {t : Tok} {Q : Value → Loc → Led → Prop} (hl : Has C led l (listO vs n)) (hi : StrsAre vs ys) (h : Q (.bool (ys.any (· == k))) m led) : T C m led (compareOp .In (.str k t) (.ref l)) Q :=
  fun s P => in_list_strs (hl.isList P) hi ⟨m, led, P, h⟩
theorem r_notinTupI {l : Addr} {vs : List Value} {ns : List Int} {k : Int} {t : Tok} {Q : Value → Loc → Led → Prop} (hl : Has C led l (tupO vs)) (hi : IntsAre vs ns) (h : Q (.bool (!(ns.any (· == k)))) m led) : T C m led (compareOp .NotIn (.int k t) (.ref l)) Q :=
  fun s P => notin_tuple_ints (hl.isTup P) (by simpa using hi) ⟨m, led, P, h⟩
theorem r_eqS {x y : Str} {t u : Tok} {Q : Value → Loc → Led → Prop} (h : Q (.bool (x == y)) m led) : T C m led (compareOp .Eq (.str x t) (.str y u)) Q := fun s P => PyProof.Rows.eq_str ⟨m, led, P, h⟩
theorem r_neS {x y : Str} {t u : Tok} {Q : Value → Loc → Led → Prop} (h : Q (.bool (x != y)) m led) : T C m led (compareOp .NotEq (.str x t) (.str y u)) Q := fun s P => PyProof.Rows.ne_str ⟨m, led, P, h⟩
theorem r_addS {x y : Str} {t u : Tok} {Q : Value → Loc → Led → Prop} (hz : x.length + y.length ≤ sizeLine) (h : ∀ t', Q (.str (x ++ y) t') m led) : T C m led (binaryOp .Add (.str x t) (.str y u)) Q :=
  fun s P => PyProof.Rows.add_str (fun t' tk => ⟨m, led, P.tk _, h _⟩) hz
theorem r_lower {x : Str} {t : Tok} {Q : Value → Loc → Led → Prop} (hz : x.length ≤ 5592405) (h : ∀ t', Q (.str (Txt.lower x) t') m led) : T C m led (call (.builtin "str.lower") [.str x t]) Q := fun s P => SCL.lower hz fun _ => ⟨m, led, P.tk _, h _⟩
theorem r_startswith {x y : Str} {t u : Tok} {Q : Value → Loc → Led → Prop} (h : Q (.bool (Txt.startswith x y)) m led) : T C m led (call (.builtin "str.startswith") [.str x t, .str y u]) Q := fun s P => SC.startswith ⟨m, led, P, h⟩
theorem r_endswith {x y : Str} {t u : Tok} {Q : Value → Loc → Led → Prop} (h : Q (.bool (Txt.endswith x y)) m led) : T C m led (call (.builtin "str.endswith") [.str x t, .str y u]) Q := fun s P => SC.endswith ⟨m, led, P, h⟩
theorem r_gmLower {x : Str} {t : Tok} {pl : Sem Bool} {Q : Value × List Value → Loc → Led → Prop} (h : Q (.builtin "str.lower", [.str x t]) m led) : T C m led (getMethod (.str x t) "lower" pl) Q := fun s P => GM.lower ⟨m, led, P, h⟩
theorem r_gmSplit {x : Str} {t : Tok} {pl : Sem Bool} {Q : Value × List Value → Loc → Led → Prop} (h : Q (.builtin "str.split", [.str x t]) m led) : T C m led (getMethod (.str x t) "split" pl) Q := fun s P => GM.split ⟨m, led, P, h⟩
theorem r_gmJoin {x : Str} {t : Tok} {pl : Sem Bool} {Q : Value × List Value → Loc → Led → Prop} (h : Q (.builtin "str.join", [.str x t]) m led) : T C m led (getMethod (.str x t) "join" pl) Q := fun s P => GM.join ⟨m, led, P, h⟩
theorem r_gmStarts {x : Str} {t : Tok} {pl : Sem Bool} {Q : Value × List Value → Loc → Led → Prop} (h : Q (.builtin "str.startswith", [.str x t]) m led) : T C m led (getMethod (.str x t) "startswith" pl) Q := fun s P => GM.startswith ⟨m, led, P, h⟩
theorem r_gmEnds {x : Str} {t : Tok} {pl : Sem Bool} {Q : Value × List Value → Loc → Led → Prop} (h : Q (.builtin "str.endswith", [.str x t]) m led) : T C m led (getMethod (.str x t) "endswith" pl) Q := fun s P => GM.endswith ⟨m, led, P, h⟩
end
end
section
def noHeap : Heap := {}
theorem noHeap_get (a : Addr) : noHeap.get? a = none := by simp [noHeap, Heap.get?]
def allN (h : Heap) (L : Addr) : Led := (List.range h.objs.size).filterMap fun a => if a = L then none else (h.get? a).map fun o => (a, o)
theorem mem_allN {h : Heap} {L a : Addr} {o : Obj} : (a, o) ∈ allN h L ↔ h.get? a = some o ∧ a ≠ L := by
  unfold allN
  rw [List.mem_filterMap]
  constructor
  · rintro ⟨b, _, hb⟩
    split at hb
    · cases hb
    · rename_i hn
      obtain ⟨o', ho', e⟩ := Option.map_eq_some_iff.mp hb
      cases e
      exact ⟨ho', hn⟩
  · rintro ⟨h1, h2⟩
    exact ⟨a, List.mem_range.mpr (Heap.lt_size h1), by rw [if_neg h2, h1]; rfl⟩
section
variable {W : Wd} {β : Addr → Option Obj} {L : Addr} {m : Str → Option Value} {led : List (Addr × Obj)} {s : Shared}
theorem Pt.fr (P : Pt W β L m led s) : Fr noHeap L s.heap m := ⟨P.ns, fun b o e => (by rw [noHeap_get] at e; cases e), Nat.zero_le _⟩
theorem Pt.news (P : Pt W β L m led s) : News noHeap L s.heap (allN s.heap L) := fun p hp => ⟨(mem_allN.mp hp).1, (mem_allN.mp hp).2, noHeap_get _⟩
theorem Pt.ofN {h' : Heap} {a : Addr} {o : Obj} {m' : Str → Option Value} (P : Pt W β L m led s) (ha : s.heap.objs.size ≤ a) (F : Fr noHeap L h' m') (N : News noHeap L h' ((a, o) :: allN s.heap L)) (t : Nat) : Pt W β L m' ((a, o) :: led) { s with heap := h', toks := t } := by
  have up : ∀ b x, b ≠ L → s.heap.get? b = some x → h'.get? b = some x := fun b x hb e => (N (b, x) (List.mem_cons_of_mem _ (mem_allN.mpr ⟨e, hb⟩))).1
  have off : ∀ {x : Obj}, s.heap.get? a = some x → False := fun q => absurd (Heap.lt_size q) (Nat.not_lt.mpr ha)
  refine ⟨P.base, P.keeps fun b x y e q => up b x (fun z => ?_) q, P.off, F.ns, fun p hp => ?_, ?_, P.gens, P.os⟩
  · rw [z, P.off] at e; cases e
  · rcases List.mem_cons.mp hp with rfl | hp
    · refine ⟨(N _ List.mem_cons_self).1, (N _ List.mem_cons_self).2.1, ?_⟩
      cases q : β a with
      | none => rfl
      | some x => obtain ⟨sl, h1⟩ := P.keep.2 _ _ q; exact (off h1).elim
    · exact ⟨up _ _ (P.own p hp).2.1 (P.own p hp).1, (P.own p hp).2⟩
  · refine List.nodup_cons.mpr ⟨fun hm => ?_, P.nd⟩
    obtain ⟨p, hp, e⟩ := List.mem_map.mp hm
    have q := (P.own p hp).1
    simp only at e
    rw [e] at q
    exact off q
theorem Pt.ofN0 {h' : Heap} {m' : Str → Option Value} (P : Pt W β L m led s) (F : Fr noHeap L h' m') (N : News noHeap L h' (allN s.heap L)) (t : Nat) : Pt W β L m' led { s with heap := h', toks := t } := by
  have up : ∀ b x, b ≠ L → s.heap.get? b = some x → h'.get? b = some x := fun b x hb e => (N (b, x) (mem_allN.mpr ⟨e, hb⟩)).1
  refine ⟨P.base, P.keeps fun b x y e q => up b x (fun z => ?_) q, P.off, F.ns, fun p hp => ⟨up _ _ (P.own p hp).2.1 (P.own p hp).1, (P.own p hp).2⟩, P.nd, P.gens, P.os⟩
  rw [z, P.off] at e; cases e
end
theorem strsAre_of {l : List (Str × Tok)} : StrsAre (strValues l) (l.map (·.1)) := by
  induction l with
  | nil => exact .nil
  | cons p r ih => exact .cons _ _ ih
section
variable {C : Cx} {m : Loc} {led : Led} {env : Env}
theorem r_split {x y : Str} {t u : Tok} {Q : Value → Loc → Led → Prop} (hy : (y.length == 0) = false) (hz : x.length + 2 ≤ sizeLine) (h : ∀ a vs, StrsAre vs (Txt.split x y) → Q (.ref a) m ((a, listO vs 0) :: led)) :
    T C m led (call (.builtin "str.split") [.str x t, .str y u]) Q :=
  fun s P => splitN1 P.fr P.news hy (fun l h' k e F N => ⟨m, _, P.ofN (Nat.le_refl _) F N k, h _ _ (e ▸ strsAre_of)⟩) hz
def RD (C : Cx) (led : Led) (v : Value) (d : PyData) : Prop := ∀ h : Heap, (∀ a o, Has C led a o → h.get? a = some o) → ∃ as, Reads h v d as
def RDs (C : Cx) (led : Led) (vs : List Value) (ds : List PyData) : Prop := ∀ h : Heap, (∀ a o, Has C led a o → h.get? a = some o) → ∃ as, ReadsAll h vs ds as
theorem RD.at {v : Value} {d : PyData} {s : Shared} (h : RD C led v d) (P : Pt C.W C.β C.L m led s) : ∃ as, Reads s.heap v d as := h _ fun _ _ e => e.get P
theorem RD.int {i : Int} {t : Tok} : RD C led (.int i t) (.int i) := fun _ _ => ⟨_, .int i t⟩
theorem RD.str {x : Str} {t : Tok} : RD C led (.str x t) (.str x) := fun _ _ => ⟨_, .str x t⟩
theorem RD.list {a : Addr} {vs : List Value} {n : Nat} {ds : List PyData} (hl : Has C led a (listO vs n)) (h : RDs C led vs ds) : RD C led (.ref a) (.list ds) := fun hp k =>
  let ⟨as, r⟩ := h hp k; ⟨_, .list (k _ _ hl) rfl rfl (by simpa using r)⟩
theorem RD.tuple {a : Addr} {vs : List Value} {ds : List PyData} (hl : Has C led a (tupO vs)) (h : RDs C led vs ds) : RD C led (.ref a) (.tuple ds) := fun hp k =>
  let ⟨as, r⟩ := h hp k; ⟨_, .tuple (k _ _ hl) rfl rfl (by simpa using r)⟩
theorem RDs.nil : RDs C led [] [] := fun _ _ => ⟨_, .nil⟩
theorem RDs.cons {v : Value} {vs : List Value} {d : PyData} {ds : List PyData} (h1 : RD C led v d) (h2 : RDs C led vs ds) : RDs C led (v :: vs) (d :: ds) := fun h k =>
  let ⟨_, r1⟩ := h1 h k; let ⟨_, r2⟩ := h2 h k; ⟨_, .cons r1 r2⟩
theorem RDs.strs {vs : List Value} {ys : List Str} (h : StrsAre vs ys) : RDs C led vs (ys.map .str) := by
  induction h with
  | nil => exact .nil
  | cons x t _ ih => exact .cons .str ih
theorem RDs.ints {vs : List Value} {ys : List Int} (h : IntsAre vs ys) : RDs C led vs (ys.map .int) := by
  induction h with
  | nil => exact .nil
  | cons x t _ ih => exact .cons .int ih
theorem r_eqD {a b : Value} {da db : PyData} {k : Nat} {Q : Value → Loc → Led → Prop} (R : Room C (k + 1)) (ra : RD C led a da) (rb : RD C led b db) (ha : SeqAt.shaped da = true) (hb : SeqAt.shaped db = true) (h : Q (.bool (PyData.eqv da db)) m led) :
    T C m led (compareOp .Eq a b) Q := fun s P => let ⟨_, x⟩ := ra.at P; let ⟨_, y⟩ := rb.at P; eq_dataH x y ha hb (by have := R.u; unfold cLine; omega) ⟨m, led, P, h⟩
theorem r_neD {a b : Value} {da db : PyData} {k : Nat} {Q : Value → Loc → Led → Prop} (R : Room C (k + 1)) (ra : RD C led a da) (rb : RD C led b db) (ha : SeqAt.shaped da = true) (hb : SeqAt.shaped db = true) (h : Q (.bool (!PyData.eqv da db)) m led) :
    T C m led (compareOp .NotEq a b) Q := fun s P => let ⟨_, x⟩ := ra.at P; let ⟨_, y⟩ := rb.at P; ne_dataH x y ha hb (by have := R.u; unfold cLine; omega) ⟨m, led, P, h⟩
theorem r_unpackTup {a : Addr} {vs : List Value} {n : Nat} {Q : List Value → Loc → Led → Prop} (hh : C.A.handled = none) (ha : Has C led a (tupO vs)) (hn : n = vs.length) (h : Q vs m led) : T C m led (unpackItems (.ref a) n none) Q := by
  subst hn
  refine fun s P => ?_
  have := unpackItems_tuple (prog := PG) (w := C.W.w) (A := C.A) (E := C.E) (s := s) (Q := fun (a : List Value) s' => ∃ m' led', Pt C.W C.β C.L m' led' s' ∧ Q a m' led') hh (ha.isTup P) fun h' hx => ⟨m, led, P.ext (fun b x e => hx b x (Nat.ne_of_lt (Heap.lt_size e)) e) s.toks, by simpa using h⟩
  simpa using this
theorem r_AssignSwap {elts : List Expr} {k : Nat} {tpos pos : Pos} {value : Expr} {names : List Str} {Q : Flow → Loc → Led → Prop}
    (h : T C m led (eval value env) fun v m1 l1 => T C m1 l1 (unpackItems v names.length none) fun items m2 l2 => T C m2 l2 (assignInOrder (names.reverse.map fun n => bindName env n) items.reverse) fun _ => Q .next)
    (h1 : swapsWithSole [.Tuple elts k tpos] value pos.line env = pure false := by rfl) (h2 : swappedStores [.Tuple elts k tpos] value env = pure (some names) := by rfl) : T C m led (exec (.Assign [.Tuple elts k tpos] value pos) env) Q :=
  fun s P => Assign_Tuple_swapped (h.run P fun v s1 m1 l1 P1 h1 => h1.run P1 fun ov s2 m2 l2 P2 h2 => h2 s2 P2) h1 h2
theorem r_AssignTup {elts : List Expr} {k : Nat} {tpos pos : Pos} {value : Expr} {Q : Flow → Loc → Led → Prop}
    (h : T C m led (eval value env) fun v m1 l1 => T C m1 l1 (assign (.Tuple elts k tpos) env v) fun _ => Q .next)
    (h1 : swapsWithSole [.Tuple elts k tpos] value pos.line env = pure false := by rfl) (h2 : swappedStores [.Tuple elts k tpos] value env = pure none := by rfl) : T C m led (exec (.Assign [.Tuple elts k tpos] value pos) env) Q :=
  fun s P => Assign_Tuple (h.run P fun v s1 m1 l1 P1 h1 => h1 s1 P1) h1 h2
theorem r_asCons {t : Value → Sem Unit} {ts : List (Value → Sem Unit)} {x : Value} {xs : List Value} {Q : Unit → Loc → Led → Prop} (h : T C m led (t x) fun _ m1 l1 => T C m1 l1 (assignInOrder ts xs) Q) : T C m led (assignInOrder (t :: ts) (x :: xs)) Q :=
  r_bind (r_holding (h.mono fun _ _ _ h1 => h1))
theorem r_asNil {xs : List Value} {Q : Unit → Loc → Led → Prop} (h : Q () m led) : T C m led (assignInOrder [] xs) Q := r_pure h
theorem r_bindName {x : Str} {v : Value} {Q : Unit → Loc → Led → Prop} (h : T C m led (storeName env x v) Q) : T C m led (bindName env x v) Q := fun s P => wpAny_bindName (h s P)
theorem r_asTup {elts : List Expr} {k : Nat} {pos : Pos} {v : Value} {Q : Unit → Loc → Led → Prop}
    (h : T C m led (unpackItems v (assignEach elts env).length ((assignEach elts env).findIdx? (·.1))) fun items m1 l1 => T C m1 l1 (assignInOrder ((assignEach elts env).map (·.2)) items) Q) : T C m led (assign (.Tuple elts k pos) env v) Q := by
  show T C m led (do standAt pos; unpack v (assignEach elts env)) Q
  exact r_bind (r_standAt (r_bind (r_holding h)))
end
end
section
theorem eqvAll_strs (ys zs : List Str) : PyData.eqvAll (ys.map .str) (zs.map .str) = (ys == zs) := by
  induction ys generalizing zs with
  | nil => cases zs <;> rfl
  | cons y ys ih => cases zs with
    | nil => rfl
    | cons z zs => simp only [List.map_cons, PyData.eqvAll, PyData.eqv, ih]; rfl
theorem eqv_strs (ys zs : List Str) : PyData.eqv (.list (ys.map .str)) (.list (zs.map .str)) = (ys == zs) := by rw [PyData.eqv]; exact eqvAll_strs ys zs
theorem canLay_strs {ys : List Str} (h : ∀ y ∈ ys, PyData.strOk y = true) : PyData.canLayAll0 (ys.map .str) = true := by
  induction ys with
  | nil => rfl
  | cons y ys ih => simp only [List.map_cons, PyData.canLayAll0, PyData.canLay0, h y (by simp), ih fun z hz => h z (by simp [hz]), Bool.and_self]
theorem depthAll_strs (ys : List Str) : PyData.depthAll (ys.map .str) = 0 := by
  induction ys with
  | nil => rfl
  | cons y ys ih => simp [PyData.depthAll, PyData.depth, ih]
theorem shaped_strs {ys : List Str} (h : ∀ y ∈ ys, PyData.strOk y = true) : SeqAt.shaped (.list (ys.map .str)) = true := by
  unfold SeqAt.shaped
  rw [PyData.canLay0, canLay_strs h, PyData.depth, depthAll_strs]
  rfl
theorem strsAre_drop {vs : List Value} {ys : List Str} (h : StrsAre vs ys) (k : Nat) : StrsAre (vs.drop k) (ys.drop k) := by
  induction h generalizing k with
  | nil => simp; exact .nil
  | cons x t h ih => cases k with
    | zero => exact .cons _ _ h
    | succ k => exact ih k
theorem strsAre_get {vs : List Value} {ys : List Str} (h : StrsAre vs ys) : ∀ {i : Nat} {y : Str}, ys[i]? = some y → ∃ t, vs[i]? = some (.str y t) := by
  induction h with
  | nil => intro i y e; simp at e
  | cons x t _ ih =>
    intro i y e
    cases i with
    | zero => simp at e; exact ⟨t, by simp [e]⟩
    | succ i => simp at e; simpa using ih e
theorem strsAre_get' {vs : List Value} {ys : List Str} (h : StrsAre vs ys) : ∀ {i : Nat} {v : Value}, vs[i]? = some v → ∃ y t, ys[i]? = some y ∧ v = .str y t := by
  induction h with
  | nil => intro i v e; simp at e
  | cons x t _ ih =>
    intro i v e
    cases i with
    | zero => simp at e; exact ⟨x, t, by simp, e.symm⟩
    | succ i => simp at e; simpa using ih e
theorem strsAre_len {vs : List Value} {ys : List Str} (h : StrsAre vs ys) : vs.length = ys.length := by
  induction h with
  | nil => rfl
  | cons x t _ ih => simp [ih]
theorem split_ne_nil (x y : Str) : Txt.split x y ≠ [] := by
  unfold Txt.split
  split
  · simp
  · split
    · simp
    · intro h
      have := congrArg List.length h
      rw [length_partsBetween] at this
      simp at this
end
section
theorem slot_search : Slot "re.Pattern" "search" "re.Pattern.search" :=
  .of (owner := "re.Pattern") (n := "search") (by rw [typeLookup_type, builtinLookup_eq_fast]; kernel_rfl) (by decide +kernel) (by decide +kernel) (by decide +kernel)
    (by first | exact .inl (by decide +kernel) | exact .inr (by decide +kernel)) (by rw [isSubtype_type]; kernel_rfl)
theorem entry_search : entryFor table "re.Pattern.search" = some Builtin.«re.Pattern.search» := entryFor_of_tree (by kernel_rfl)
theorem args_search (a b : Value) : argsOk "re.Pattern.search" ⟨[a, b], []⟩ := by
  unfold argsOk
  kernel_rfl
def drv : Nat → Sre.M → Option Sre.M
  | 0, _ => none
  | k + 1, m => if (m.runFor Builtin.Re.reTurnSteps).outcome.isSome = true then some (m.runFor Builtin.Re.reTurnSteps) else drv k (m.runFor Builtin.Re.reTurnSteps)
section
variable {C : Cx} {m : Loc} {led : Led} {env : Env}
theorem r_drive {Q : Sre.M → Loc → Led → Prop} : ∀ (k n : Nat) (M M' : Sre.M), drv k M = some M' → k ≤ n → Q M' m led → T C m led (Builtin.Re.reDrive n M) Q
  | 0, _, _, _, h, _, _ => nomatch h
  | k + 1, 0, _, _, _, hn, _ => absurd hn (by omega)
  | k + 1, n + 1, M, M', h, hn, hq => by
    unfold drv at h
    unfold Builtin.Re.reDrive
    dsimp only
    split at h
    · rename_i e
      rw [if_pos e]
      cases h
      exact r_pure hq
    · rename_i e
      rw [if_neg e]
      exact r_bind (r_rule (r_drive k n _ _ h (by omega) hq))
theorem r_noEffect {α : Type} {f : α → PUnit → Sem (ForInStep PUnit)} {Q : PUnit → Loc → Led → Prop} (hf : ∀ x u m' l', ∀ Q' : ForInStep PUnit → Loc → Led → Prop, Q' (.yield ⟨⟩) m' l' → T C m' l' (f x u) Q') : ∀ (l : List α), Q ⟨⟩ m led → T C m led (forIn l ⟨⟩ f) Q
  | [], h => by rw [List.forIn_nil]; exact r_pure h
  | x :: l, h => by
    rw [List.forIn_cons]
    exact r_bind (hf x ⟨⟩ m led _ (r_noEffect hf l h))
theorem r_runToEnd {Q : Option Sre.M → Loc → Led → Prop} {k : Nat} {M M' : Sre.M} {b : Bool} (h : drv k M = some M') (hk : k ≤ 2 ^ 64) (ho : M'.outcome = some (if b then .matched else .failed)) (hq : Q (if b then some M' else none) m led) : T C m led (Builtin.Re.reRunToEnd M) Q := by
  unfold Builtin.Re.reRunToEnd
  refine r_bind (r_drive k _ M M' h hk ?_)
  refine r_bind (r_noEffect ?_ _ ?_)
  · intro x u m' l' Q' hQ
    split
    · exact r_bind (r_rule (r_pure hQ))
    · exact r_pure hQ
  · rw [ho]
    cases b
    · exact r_pure hq
    · exact r_pure hq
def p0 : Params := { strHash := fun _ => 0, shareClass := fun _ => 0, mergeTok := id, idOf := fun _ => 0, idOfShared := fun _ _ => 0, followText := fun _ => false, idOfImm := fun _ => 0 }
def codeOf (o : Option Obj) : Array Nat := match o with
  | some ⟨_, _, .seq vs _, _⟩ => (vs.map Builtin.Re.reRawOf).map (·.toNat)
  | _ => #[]
noncomputable def reCode : Array Nat := codeOf ((hd.heap_1 p0).lookup 42)
noncomputable abbrev reStart (x : Str) : Sre.M := Sre.forSearch reCode x.cps 0 (min (0 : Int).toNat x.cps.size) (min ((2 ^ 63 - 1 : Int)).toNat x.cps.size) false
theorem named1 (v : Value) : Builtin.Re.reNamed "re.Pattern.search" "search" ["string", "pos", "endpos"] 1 [v] [] = pure [some v, none, none] := rfl
abbrev Cx.in1 (C : Cx) : Cx := ⟨C.W, C.A.in1, C.E, C.β, C.L⟩
theorem r_search {x : Str} {t : Tok} {Q : Value → Loc → Led → Prop} {k : Nat} {M' : Sre.M} {b : Bool} {od : Option Addr} {fs items : Array Value} {sl : Array (Option Value)} {o42 : Obj} {ep : Nat} (h : drv k (reStart x) = some M') (hk : k ≤ 2 ^ 64) (ho : M'.outcome = some (if b then .matched else .failed))
    (h43 : (hd.heap_1 C.W.w.params).lookup 43 = some ⟨.type "re.Pattern", od, .fields fs, sl⟩) (e5 : fs.getD 5 .none = .ref 42) (e6 : Builtin.Re.reRawNat (fs.getD 6 .none) = 0) (e2 : Builtin.Re.reRawNat (fs.getD 2 .none) = 0)
    (h42 : (hd.heap_1 C.W.w.params).lookup 42 = some o42) (d42 : o42.data = .seq items ep) (hc : reCode = (items.map Builtin.Re.reRawOf).map (·.toNat))
    (h1 : b = true → ∀ a1 a2 vs1 vs2, Q (.ref a2) m ((a2, { cls := .type "re.Match", data := .fields vs2 }) :: (a1, tupO vs1) :: led)) (h2 : b = false → Q .none m led) : T C m led (call (.builtin "re.Pattern.search") [.ref 43, .str x t]) Q := by
  refine fun s P => wpAny_call_entry slot_search ⟨_, P.X _ _ h43, rfl⟩ entry_search ?_ (args_search _ _)
  refine T.run (C := C.in1) (Q := fun fin m' l' => ∃ v, fin = .done (.ret v) ∧ Q v m' l') ?_ P (fun fin s' m' l' P' ⟨v, e, hv⟩ => ⟨v, e, m', l', P', hv⟩)
  show T C.in1 m led (do
    let t ← Builtin.Re.reTarget "re.Pattern.search" "search" ⟨[.ref 43, .str x t], []⟩
    Builtin.Re.reAnswer t (Sre.forSearch t.code t.text t.groups t.pos t.lim false)) _
  refine r_bind ?_
  unfold Builtin.Re.reTarget
  refine r_bind ?_
  rw [named1]
  refine r_pure ?_
  refine r_bind (r_pure (r_bind (r_pure ?_)))
  refine r_bind (fun s P => wpAny_fieldsOf (P.X _ _ h43) rfl ⟨m, led, P, ?_⟩)
  refine r_bind ?_
  show T C.in1 m led (pure (x.cps, 0)) _
  refine r_pure ?_
  dsimp only
  rw [e6, e5, e2]
  refine r_bind (r_pure ?_)
  refine r_bind ?_
  unfold Builtin.Re.reRawItems
  refine r_bind (fun s P => wpAny_seqItems (P.X _ _ h42) d42 ⟨m, led, P, ?_⟩)
  refine r_pure (r_pure ?_)
  dsimp only [Option.getD]
  rw [← hc]
  unfold Builtin.Re.reAnswer
  refine r_bind (r_runToEnd h hk ho ?_)
  cases b with
  | false => exact r_pure ⟨_, rfl, h2 rfl⟩
  | true =>
    refine r_bind ?_
    unfold Builtin.Re.reNewMatch
    simp only [List.range_zero, List.flatMap_nil, List.any_nil, Bool.false_eq_true, if_false]
    refine r_bind (r_newTuple (Nat.le_of_ble_eq_true rfl) fun a1 => ?_)
    exact fun s P => wpAny_newObj_type ⟨m, _, P.alloc _, r_pure ⟨_, rfl, h1 rfl _ _ _ _⟩⟩
end
end
section
def mkT (dot : Bool) (ls : List Nat) : Str := ⟨((if dot then [46] else []) ++ ls.intersperse 46).toArray⟩
def hitT (dot : Bool) (ls : List Nat) : Bool := ls.getLast? == some 55 && (dot || decide (2 ≤ ls.length))
def lows (n : Nat) : List (List Nat) := match n with
  | 0 => [[]]
  | n + 1 => (lows n).flatMap fun l => [97 :: l, 98 :: l, 55 :: l]
def outB (o : Option Sre.Outcome) : Nat := match o with
  | some .matched => 1
  | some .failed => 0
  | _ => 2
noncomputable def okT (dot : Bool) (ls : List Nat) : Bool := match drv 40 (reStart (mkT dot ls)) with
  | some M => outB M.outcome == (if hitT dot ls then 1 else 0)
  | none => false
theorem ok1 : ((lows 1).all fun l => okT true l && okT false l) = true := by decide +kernel
theorem ok2 : ((lows 2).all fun l => okT true l && okT false l) = true := by decide +kernel
theorem ok3 : ((lows 3).all fun l => okT true l && okT false l) = true := by decide +kernel
theorem ok4 : ((lows 3).all fun l => okT false (98 :: l)) = true := by decide +kernel
theorem mem_lows : ∀ {n : Nat} {l : List Nat}, l.length = n → (∀ c ∈ l, c = 97 ∨ c = 98 ∨ c = 55) → l ∈ lows n
  | 0, [], _, _ => by simp [lows]
  | n + 1, c :: l, hl, h => by
    have ih := mem_lows (n := n) (l := l) (by simpa using hl) (fun x hx => h x (by simp [hx]))
    simp only [lows, List.mem_flatMap]
    refine ⟨l, ih, ?_⟩
    rcases h c (by simp) with rfl | rfl | rfl <;> simp
theorem search_ok {dot : Bool} {ls : List Nat} (hl : 1 ≤ ls.length) (h4 : ls.length ≤ 3 ∨ (dot = false ∧ ∃ l, ls = 98 :: l ∧ l.length = 3)) (h : ∀ c ∈ ls, c = 97 ∨ c = 98 ∨ c = 55) :
    ∃ M, drv 40 (reStart (mkT dot ls)) = some M ∧ M.outcome = some (if hitT dot ls then .matched else .failed) := by
  have key : okT dot ls = true := by
    have hm := mem_lows rfl h
    have hc : ls.length = 1 ∨ ls.length = 2 ∨ ls.length = 3 ∨ (dot = false ∧ ∃ l, ls = 98 :: l ∧ l.length = 3) := by
      rcases h4 with h4 | h4
      · have : ls.length = 1 ∨ ls.length = 2 ∨ ls.length = 3 := by omega
        rcases this with e | e | e
        · exact .inl e
        · exact .inr (.inl e)
        · exact .inr (.inr (.inl e))
      · exact .inr (.inr (.inr h4))
    rcases hc with e | e | e | ⟨rfl, l, rfl, e⟩
    · rw [e] at hm
      have := List.all_eq_true.mp ok1 ls hm
      simp only [Bool.and_eq_true] at this
      cases dot
      · exact this.2
      · exact this.1
    · rw [e] at hm
      have := List.all_eq_true.mp ok2 ls hm
      simp only [Bool.and_eq_true] at this
      cases dot
      · exact this.2
      · exact this.1
    · rw [e] at hm
      have := List.all_eq_true.mp ok3 ls hm
      simp only [Bool.and_eq_true] at this
      cases dot
      · exact this.2
      · exact this.1
    · exact List.all_eq_true.mp ok4 l (mem_lows e fun c hc => h c (by simp [hc]))
  unfold okT at key
  split at key
  · rename_i M e
    refine ⟨M, e, ?_⟩
    have key := beq_iff_eq.mp key
    unfold outB at key
    cases hb : hitT dot ls <;> rw [hb] at key <;> simp at key ⊢
    · split at key <;> simp_all
    · split at key <;> simp_all
  · cases key
end
section
section
variable {C : Cx} {m : Loc} {led : Led} {env : Env}
theorem r_peek {α : Type} {t : Sem α} {r : α} {Q : α → Loc → Led → Prop} (e : peek (hd.heap_1 C.W.w.params) ⟨PG, C.W.w.params⟩ t = some r) (h : Q r m led) : T C m led t Q :=
  fun s P => Looks.here (Looks.of_peek (M := Mo C.W) P.X e) ⟨m, led, P, h⟩
theorem no_bool_match : typeLookup (.type "re.Match") "__bool__" = pure none := by rw [typeLookup_type, builtinLookup_eq_fast]; kernel_rfl
theorem no_len_match : typeLookup (.type "re.Match") "__len__" = pure none := by rw [typeLookup_type, builtinLookup_eq_fast]; kernel_rfl
theorem r_tMatch {a : Addr} {vs : Array Value} {Q : Bool → Loc → Led → Prop} (ha : Has C led a { cls := .type "re.Match", data := .fields vs }) (h : Q true m led) : T C m led (truthy (.ref a)) Q := by
  unfold truthy
  have hT : ∀ {s : Shared}, Pt C.W C.β C.L m led s → s.TypeIs (.ref a) "re.Match" := fun P => ⟨_, ha.get P, rfl⟩
  refine r_bind ?_
  unfold callSpecial?
  refine r_bind (fun s P => wpAny_specialOf (hT P) no_bool_match ⟨m, led, P, ?_⟩)
  refine r_pure ?_
  refine r_bind (fun s P => wpAny_specialOf (hT P) no_len_match ⟨m, led, P, ?_⟩)
  exact r_pure h
end
end
section
def low (c : Nat) : Nat := if c = 65 then 97 else c
def raws (n : Nat) : List (List Nat) := match n with
  | 0 => [[]]
  | n + 1 => (raws n).flatMap fun l => [97 :: l, 65 :: l, 98 :: l, 55 :: l]
def sg (c : Nat) : Str := ⟨#[c]⟩
def lowOk (d : Bool) (l : List Nat) : Bool := Txt.lower (mkT d l) == mkT d (l.map low)
def labsOf (d : Bool) (l : List Nat) : List Str := (if d then [Str.ofString ""] else []) ++ l.map sg
def splOk (d : Bool) (l : List Nat) : Bool := Txt.split (mkT d l) (Str.ofString ".") == labsOf d l
theorem low1 : ((raws 1).all fun l => lowOk true l && lowOk false l) = true := by decide +kernel
theorem low2 : ((raws 2).all fun l => lowOk true l && lowOk false l) = true := by decide +kernel
theorem low3 : ((raws 3).all fun l => lowOk true l && lowOk false l && lowOk false (98 :: l)) = true := by decide +kernel
theorem spl1 : ((lows 1).all fun l => splOk true l && splOk false l) = true := by decide +kernel
theorem spl2 : ((lows 2).all fun l => splOk true l && splOk false l) = true := by decide +kernel
theorem spl3 : ((lows 3).all fun l => splOk true l && splOk false l && splOk false (98 :: l)) = true := by decide +kernel
def lowT : List (Bool × List Nat) := ((lows 1 ++ lows 2 ++ lows 3).flatMap fun l => [(true, l), (false, l)]) ++ (lows 3).map fun l => (false, 98 :: l)
def udmL (A B : Str) (hA hB dB : Bool) : Bool :=
  if (!(!hA && !hB)) = true then A == B
  else if (dB && Txt.endswith A B) = true then true
  else if (!dB && A == B) = true then true else false
def underP (a b : Bool × List Nat) : Bool := 
  (a.1 == b.1 && a.2 == b.2) || (b.1 && (b.2.getLast? != some 55 && (decide (b.2.length + 1 ≤ a.2.length + (if a.1 then 1 else 0)) && (a.2.drop (a.2.length - b.2.length) == b.2))))
def pairOk (a b : Bool × List Nat) : Bool := udmL (mkT a.1 a.2) (mkT b.1 b.2) (hitT a.1 a.2) (hitT b.1 b.2) b.1 == underP a b
theorem pairs_all : (lowT.all fun b => lowT.all fun a => pairOk a b) = true := by decide +kernel
end
section
abbrev cellO (v : Option Value) : Obj := { cls := .type "cell", data := .cell v }
section
variable {W : Wd} {β : Addr → Option Obj} {L : Addr} {m : Str → Option Value} {led : List (Addr × Obj)} {s : Shared}
def cellLed (n : Nat) : List (Str × NameKind) → Led → Led
  | [], led => led
  | (_, kind) :: r, led => if kind == .cell then cellLed (n + 1) r ((n, cellO none) :: led) else cellLed n r led
theorem Pt.cells : ∀ (names : List (Str × NameKind)) {led : Led} {s : Shared}, Pt W β L m led s → Pt W β L m (cellLed s.heap.objs.size names led) { s with heap := pushCells s.heap names }
  | [], led, s, P => P
  | (_, kind) :: r, led, s, P => by
    unfold cellLed pushCells
    split
    · have := Pt.cells r (P.alloc (cellO none))
      rw [show ({ s with heap := s.heap.push (cellO none) } : Shared).heap.objs.size = s.heap.objs.size + 1 from Heap.size_push ..] at this
      exact this
    · exact Pt.cells r P
end
section
variable {M : Model} {A : Around} {E : Value → Shared → Prop} {s : Shared} {env : Env}
theorem wpAny_newCompEnv {scope : Scope} {cl : List (Str × Addr)} {globals : Addr} {qual : Str} {Q : Env → Shared → Prop}
    (hQ : Q { scope := scope, locals := s.heap.objs.size, globals := globals, cells := cellsFrom (s.heap.objs.size + 1) scope.names cl, qual := qual, func := none, code := env.code, frame := env.frame, builtins := env.builtins }
      { s with heap := pushCells (s.heap.push { cls := .type "dict", data := .dict #[] }) scope.names }) :
    wpAny M A (newFunctionEnv scope globals cl [] qual none .none (some env)) Q E s := by
  simp only [newFunctionEnv, Option.isSome_some, if_true]
  refine wpAny_bind (wpAny_alloc ?_)
  refine wpAny_bind (wpAny_layCells _ (fun name kind cells => by cases hkc : kind == NameKind.cell <;> simp [hkc]) _ _ _ _ ?_)
  rw [show ({ s with heap := s.heap.push { cls := .type "dict", data := .dict #[] } } : Shared).heap.objs.size = s.heap.objs.size + 1 from Heap.size_push ..]
  exact wpAny_bind (wpAny_pure (wpAny_pure hQ))
end
section
variable {C : Cx} {m : Loc} {led : Led} {env : Env}
theorem r_cellL {x : Str} {c : Addr} {v : Value} {Q : Value → Loc → Led → Prop} (hk : env.scope.kind = .function) (hl : env.kindOf x = some .cell ∨ env.kindOf x = some .free) (hc : env.cells.lookup x = some c)
    (hv : Has C led c (cellO (some v))) (h : Q v m led) (hn : (x == ("__classdict__" : Str)) = false := by decide) : T C m led (loadName env x) Q := fun s P => by
  rcases hl with hl | hl
  · exact wpAny_loadName_cell hk hl hc ⟨_, hv.get P, rfl⟩ ⟨m, led, P, h⟩
  · exact wpAny_loadName_free hk hl hc ⟨_, hv.get P, rfl⟩ ⟨m, led, P, h⟩ hn
theorem r_cell {x : Str} {pos : Pos} {c : Addr} {v : Value} {Q : Value → Loc → Led → Prop} (hk : env.scope.kind = .function) (hl : env.kindOf x = some .cell ∨ env.kindOf x = some .free) (hc : env.cells.lookup x = some c)
    (hv : Has C led c (cellO (some v))) (h : Q v m led) (hn : (x == ("__classdict__" : Str)) = false := by decide) (hd : (x == ("__debug__" : Str)) = false := by decide) : T C m led (eval (.Name x pos) env) Q :=
  fun s P => wpAny_Name (r_cellL hk hl hc hv h hn s P) hd
theorem r_storeCell {x : Str} {c : Addr} {v : Value} {v0 : Option Value} {pre post : Led} {Q : Unit → Loc → Led → Prop} (hk : env.scope.kind = .function) (hl : env.kindOf x = some .cell) (hc : env.cells.lookup x = some c)
    (e : led = pre ++ (c, cellO v0) :: post) (h : Q () m (pre ++ (c, cellO (some v)) :: post)) : T C m led (storeName env x v) Q := fun s P => by
  subst e
  have ho := P.get (a := c) (o := cellO v0) (by simp)
  unfold storeName
  simp only [hl, hk]
  refine wpAny_bind (wpAny_cellOf hc ?_)
  unfold cellSet
  refine wpAny_bind (wpAny_load ho ?_)
  exact wpAny_update ho ⟨m, _, P.update (fun o => { o with data := .cell (some v) }) rfl rfl, h⟩
abbrev testsT (ifs : List Expr) (env : Env) : Sem Bool := forIn ifs true fun c r => if r = true then do let ok ← isTrue c env (eval c env); pure (ForInStep.yield ok) else pure (ForInStep.yield r)
theorem r_tests0 {Q : Bool → Loc → Led → Prop} (h : Q true m led) : T C m led (testsT [] env) Q := fun s P => wpAny_tests_nil ⟨m, led, P, h⟩
theorem r_tests1 {c : Expr} {Q : Bool → Loc → Led → Prop} (h : T C m led (isTrue c env (eval c env)) Q) : T C m led (testsT [c] env) Q := fun s P => wpAny_tests_one (h s P)
def CompEnd (C : Cx) (use : Option (Value → Sem Unit)) (D L' : Addr) (Q : Value → Loc → Led → Prop) (m : Loc) (led : Led) : Prop :=
  match use with
  | none => Q (.ref D) m led
  | some u => ∀ o, T C m ((L', o) :: led) (u (.ref D)) fun _ m3 l3 => ∃ l4, List.Sublist ((L', o) :: l4) l3 ∧ Q .none m3 l4
abbrev cenvOf (scope : Scope) (cl : List (Str × Addr)) (L' : Addr) (env : Env) : Env := compEnvC scope (cellsFrom (L' + 1) scope.names cl) L' env
theorem compEnd_post {use : Option (Value → Sem Unit)} {D L' : Addr} {m2 : Loc} {l2 : Led} {s0 s' : Shared} {Q : Value → Loc → Led → Prop} {mc : Loc} {lc l' : Led}
    (P0 : Pt C.W C.β C.L m2 l2 s0) (P' : Pt C.W (hideB l2 s0.heap) L' mc lc s') (hs : List.Sublist l' lc) (h : CompEnd C use D L' Q m2 l') :
    compPost (Mo C.W) C.A C.E use (fun v s => ∃ m' led', Pt C.W C.β C.L m' led' s ∧ Q v m' led') (.ref D) L' (.ok .next) s' := by
  have hne : C.L ≠ L' := fun e => by
    obtain ⟨oL, es, ep, hL, r⟩ := P0.ns
    have := P'.off
    rw [← e, hideB_of hL P0.notLedL] at this; cases this
  have hoff : C.β L' = none := by
    cases q : C.β L' with
    | none => rfl
    | some o => obtain ⟨sl, h1⟩ := P0.keep.2 _ _ q; have := P'.off; rw [hideB_of h1 (P0.notLed q)] at this; cases this
  -- the outer point, the frame of the comprehension as one more object of the ledger
  obtain ⟨oC, es, ep, hC, r⟩ := P'.ns
  have PB : Pt C.W C.β C.L m2 l' s' := P0.back (P'.drop hs)
  have hnl : ∀ p ∈ l', p.1 ≠ L' := fun p hp => (P'.own p (hs.subset hp)).2.1
  have PL : Pt C.W C.β C.L m2 ((L', oC) :: l') s' := ⟨PB.base, PB.keep, PB.off, PB.ns, fun p hp => by
    rcases List.mem_cons.mp hp with rfl | hp
    · exact ⟨hC, Ne.symm hne, hoff⟩
    · exact PB.own p hp, by
    simp only [List.map_cons]
    exact List.nodup_cons.mpr ⟨fun q => by obtain ⟨p, hp, e⟩ := List.mem_map.mp q; exact hnl p hp e, PB.nd⟩, PB.gens, PB.os⟩
  have fin : ∀ {m3 : Loc} {l4 : Led} {s'' : Shared} {h' : Heap}, Pt C.W C.β C.L m3 ((L', oC) :: l4) s'' → Heap.SameBut L' s''.heap h' → Pt C.W C.β C.L m3 l4 { s'' with heap := h' } := fun {m3 l4 s'' h'} Px hsb =>
    Px.gone (fun b x hb e => hsb.extBut b x hb e) s''.toks
  cases use with
  | none => exact ⟨mc, ⟨oC, es, ep, hC, r⟩, fun h' hsb => ⟨m2, l', fin PL hsb, h⟩⟩
  | some u =>
    refine (h oC).run PL fun _ s'' m3 l3 P3 ⟨l4, hs4, hq⟩ => ?_
    have P4 := P3.drop hs4
    exact ⟨mc, ⟨oC, es, ep, P4.get (by simp), r⟩, fun h' hsb => ⟨m3, l4, fin P4 hsb, hq⟩⟩
theorem r_compList {elt iter : Expr} {x : Str} {px : Pos} {ifs : List Expr} {scope : Scope} {cl : List (Str × Addr)} {pos pos' : Pos} {use : Option (Value → Sem Unit)} {Q : Value → Loc → Led → Prop}
    (hclos : closureFor scope env = pure cl) (hkind : scope.kind = .function) (hnames : ∀ y ∈ scope.names, y.2 = .local → scope.names.lookup y.1 = some .local)
    (h : T C m led (eval iter env) fun xv m1 l1 => T C m1 l1 (pyIter xv) fun it m2 l2 => ∃ I, it = .ref I ∧ ∀ D L' β' E', Up C.β β' →
      ∃ (J : Nat → Loc → Led → Prop) (n : Nat), J n (fun _ => none) (cellLed (L' + 1) scope.names ((D, listO [] 0) :: l2)) ∧
        (∀ n m l, J n m l → T ⟨C.W, C.A, E', β', L'⟩ m l (pyIter (.ref I)) fun it' m' l' => it' = .ref I ∧ J n m' l') ∧
        (∀ n m l, J n m l → T ⟨C.W, C.A, E', β', L'⟩ m l (pyNext (.ref I)) fun r m1 l1 => match r with
          | none => ∃ l', List.Sublist l' l1 ∧ CompEnd C use D L' Q m2 l'
          | some v => T ⟨C.W, C.A, E', β', L'⟩ m1 l1 (storeName (cenvOf scope cl L' env) x v) fun _ m2 l2 => T ⟨C.W, C.A, E', β', L'⟩ m2 l2 (testsT ifs (cenvOf scope cl L' env)) fun ok m3 l3 =>
              if ok = true then T ⟨C.W, C.A, E', β', L'⟩ m3 l3 (eval elt (cenvOf scope cl L' env)) fun y m4 l4 => T ⟨C.W, C.A, E', β', L'⟩ m4 l4 (call (.builtin "list.append") [.ref D, y]) fun _ m5 l5 => ∃ l' k, List.Sublist l' l5 ∧ k < n ∧ J k m5 l'
              else ∃ l' k, List.Sublist l' l3 ∧ k < n ∧ J k m3 l'))
    (hs : ∀ x, foldedSetIterable iter env x = pure x := by intro _; rfl) :
    T C m led (comprehension (.ListComp elt [⟨.Name x px, iter, ifs, 0⟩] scope pos) scope env pos' (newList []) false (eval iter env) use) Q := fun s P => by
  refine wpAny_comprehension_free rfl hs hclos hkind hnames (h.run P fun xv s1 m1 l1 P1 h1 => h1.run P1 fun it s2 m2 l2 P2 ⟨I, e, h2⟩ => ?_)
  subst e
  refine wpAny_newObj_type (wpAny_newCompEnv ?_)
  have P3 := P2.alloc { cls := .type "list", data := .seq (([] : List Value).toArray) }
  generalize hs3 : ({ s2 with heap := s2.heap.push { cls := .type "list", data := .seq (([] : List Value).toArray) } } : Shared) = s3 at P3 ⊢
  have hD : s2.heap.objs.size = s2.heap.objs.size := rfl
  generalize s2.heap.objs.size = D at P3 ⊢
  have hnone : s3.heap.get? s3.heap.objs.size = none := by
    cases q : s3.heap.get? s3.heap.objs.size with
    | none => rfl
    | some o => exact absurd (Heap.lt_size q) (Nat.lt_irrefl _)
  have P4 := (P3.into (L' := s3.heap.objs.size) (m' := fun _ => none) (s' := { s3 with heap := s3.heap.push { cls := .type "dict", data := .dict #[] } }) hnone (Heap.Ns.new s3.heap (.type "dict")) (fun b o e => Heap.get?_push_of_some _ e) rfl rfl).cells scope.names
  have hsz : ({ s3 with heap := s3.heap.push { cls := .type "dict", data := .dict #[] } } : Shared).heap.objs.size = s3.heap.objs.size + 1 := Heap.size_push ..
  rw [hsz] at P4
  have up : Up C.β (hideB ((D, { cls := .type "list", data := .seq (([] : List Value).toArray) }) :: l2) s3.heap) := P3.up
  generalize hL' : s3.heap.objs.size = L' at P4 ⊢
  let E' : Value → Shared → Prop := notedBy (Mo C.W) C.A (cenvOf scope cl L' env) fun e s' => compPost (Mo C.W) C.A C.E use (fun v s => ∃ m' led', Pt C.W C.β C.L m' led' s ∧ Q v m' led') (.ref D) L' (.error e) s'
  obtain ⟨J, n, hJ, hself, turn⟩ := h2 D L' _ E' up
  have loop : ∀ s' m' l' n, Pt C.W (hideB ((D, { cls := .type "list", data := .seq (([] : List Value).toArray) }) :: l2) s3.heap) L' m' l' s' → J n m' l' →
      codeAny (Mo C.W) C.A (.compLoop (.ListComp elt [⟨.Name x px, iter, ifs, 0⟩] scope pos) 0 (.ref I) (.ref D) (cenvOf scope cl L' env)) (compPost (Mo C.W) C.A C.E use (fun v s => ∃ m' led', Pt C.W C.β C.L m' led' s ∧ Q v m' led') (.ref D) L') s' := by
    intro s' m' l' n P' hj
    refine codeAny_compLoop_tests (fun n s' => ∃ m' l', Pt C.W (hideB ((D, { cls := .type "list", data := .seq (([] : List Value).toArray) }) :: l2) s3.heap) L' m' l' s' ∧ J n m' l') (fun n s' ⟨m', l', P', hj⟩ => ?_) n ⟨m', l', P', hj⟩
    refine (turn n m' l' hj).run P' fun r s4 m4 l4 P4 h4 => ?_
    cases r with
    | none =>
      obtain ⟨l5, hs5, hq⟩ := h4
      exact compEnd_post P3 P4 hs5 hq
    | some v =>
      refine wpAny_assign_Name (h4.run P4 fun _ s5 m5 l5 P5 h5 => h5.run P5 fun ok s6 m6 l6 P6 h6 => ?_)
      cases ok with
      | false =>
        simp only [Bool.false_eq_true, if_false] at h6 ⊢
        obtain ⟨l7, k, hs7, hk, hj7⟩ := h6
        exact ⟨k, hk, m6, l7, P6.drop hs7, hj7⟩
      | true =>
        simp only [if_true] at h6 ⊢
        refine h6.run P6 fun y s7 m7 l7 P7 h7 => h7.run P7 fun _ s8 m8 l8 P8 h8 => ?_
        obtain ⟨l9, k, hs9, hk, hj9⟩ := h8
        exact ⟨k, hk, m8, l9, P8.drop hs9, hj9⟩
  have P4' : Pt C.W (hideB ((D, { cls := .type "list", data := .seq (([] : List Value).toArray) }) :: l2) s3.heap) L' (fun _ => none) (cellLed (L' + 1) scope.names ((D, listO [] 0) :: l2)) { s3 with heap := pushCells (s3.heap.push { cls := .type "dict", data := .dict #[] }) scope.names } := P4
  refine codeAny_compStart_list (loop _ _ _ n P4' hJ) ?_
  refine (hself n _ _ hJ).run P4' fun it' s5 m5 l5 P5 ⟨e, hj⟩ => ?_
  subst e
  exact loop s5 m5 l5 n P5 hj
end
end
section
section
variable {C : Cx} {m : Loc} {led : Led} {env : Env} {K : Type} [DecidableEq K] {knd : PySem.KeyKind PG C.W.w K} {d : Addr} {o : Obj} {kvs : List (K × Value)} {k : K} {key : Value}
theorem Has.dictOf {s : Shared} (h : Has C led d o) (hd : o.IsDictOf knd kvs) (P : Pt C.W C.β C.L m led s) : s.heap.DictOf knd d kvs := Heap.dictOf_iff.mpr ⟨o, h.get P, hd⟩
theorem dictO_new : Obj.IsDictOf knd { cls := .type "dict", data := .dict #[] } [] := ⟨#[], 0, ⟨rfl, rfl, rfl⟩, rfl, fun _ he => by simp at he, Pairs.nil, List.nodup_nil⟩
theorem isDict_nodup (hd : o.IsDictOf knd kvs) : (kvs.map (·.1)).Nodup := let ⟨_, _, _, _, _, _, hn⟩ := hd; hn
theorem Pt.lowMods {s : Shared} (P : Pt C.W C.β C.L m led s) : (s.heap.objs.size == sysModules) = false := by
  obtain ⟨mc, hns, _⟩ := P.nolimit
  have := hns.lt
  have e : (2 : Nat) < s.heap.objs.size := this
  have : ¬ s.heap.objs.size = 1 := by omega
  exact beq_eq_false_iff_ne.mpr this
theorem r_newDict {Q : Value → Loc → Led → Prop} (h : ∀ a, (a == sysModules) = false → Q (.ref a) m ((a, { cls := .type "dict", data := .dict #[] }) :: led)) : T C m led newDict Q := fun s P => wpAny_newObj_type ⟨m, _, P.alloc _, h _ P.lowMods⟩ (by size_fits)
theorem r_Dict0 {pos : Pos} {Q : Value → Loc → Led → Prop} (h : ∀ a, (a == sysModules) = false → Q (.ref a) m ((a, { cls := .type "dict", data := .dict #[] }) :: led)) : T C m led (eval (.Dict [] [] pos) env) Q := fun s P => by
  rw [eval_Dict_empty]; exact wpAny_bind (wpAny_standAt (r_newDict h s P))
theorem r_dIn {Q : Value → Loc → Led → Prop} (hl : Has C led d o) (hd : o.IsDictOf knd kvs) (hs : (d == sysModules) = false) (hk : knd.is k key = true) (h : Q (.bool (valueAt kvs k).isSome) m led) : T C m led (compareOp .In key (.ref d)) Q :=
  fun s P => wpAny_in_of hk hs (hl.dictOf hd P).mapOf ⟨m, led, P.tk _, h⟩
theorem r_dNotIn {Q : Value → Loc → Led → Prop} (hl : Has C led d o) (hd : o.IsDictOf knd kvs) (hs : (d == sysModules) = false) (hk : knd.is k key = true) (h : Q (.bool (!(valueAt kvs k).isSome)) m led) : T C m led (compareOp .NotIn key (.ref d)) Q :=
  fun s P => wpAny_notIn_of hk hs (hl.dictOf hd P).mapOf ⟨m, led, P.tk _, h⟩
theorem r_dItem {value slice : Expr} {x : Value} {Q : Value → Loc → Led → Prop} (hl : Has C led d o) (hd : o.IsDictOf knd kvs) (hk : knd.is k key = true) (hv : valueAt kvs k = some x) (h : Q x m led)
    (hs : subscripted slice false (.ref d) key = operate [.ref d, key] (getItem (.ref d) key) := by with_unfolding_all rfl) : T C m led (subscriptTail value slice (.ref d) key) Q :=
  fun s P => tail_any (hl.dictOf hd P).typeIs slot_dict_getitem.lookup (wpAny_getItem_of hk (hl.dictOf hd P).mapOf hv ⟨m, led, P.tk _, h⟩) hs
theorem r_dictSet {pre post : Led} {v : Value} {Q : Unit → Loc → Led → Prop} (e : led = pre ++ (d, o) :: post) (hd : o.IsDictOf knd kvs) (hk : knd.is k key = true) (hz : kvs.length ≤ sizeLine)
    (h : ∀ o', o'.IsDictOf knd (stored kvs k v) → Q () m (pre ++ (d, o') :: post)) : T C m led (dictSet d key v) Q := fun s P => by
  subst e
  refine wpAny_dictSet_pairs (hsz := hz) hk (Heap.dictOf_iff.mpr ⟨o, P.get (by simp), hd⟩) fun h' hm hsb => ?_
  obtain ⟨o', ho', hd'⟩ := Heap.dictOf_iff.mp hm
  exact ⟨m, _, P.movedAt ho' (fun b x hb e => hsb.extBut b x hb e) _, h o' hd'⟩
theorem r_dSetItem {pre post : Led} {v : Value} {Q : Unit → Loc → Led → Prop} (e : led = pre ++ (d, o) :: post) (hd : o.IsDictOf knd kvs) (hk : knd.is k key = true) (hz : kvs.length ≤ sizeLine)
    (h : ∀ o', o'.IsDictOf knd (stored kvs k v) → Q () m (pre ++ (d, o') :: post)) : T C m led (setItem (.ref d) key v) Q := fun s P => by
  subst e
  refine wpAny_setItem_pairs (hsz := hz) hk (Heap.dictOf_iff.mpr ⟨o, P.get (by simp), hd⟩) fun h' hm hsb => ?_
  obtain ⟨o', ho', hd'⟩ := Heap.dictOf_iff.mp hm
  exact ⟨m, _, P.movedAt ho' (fun b x hb e => hsb.extBut b x hb e) _, h o' hd'⟩
theorem r_lenDict {Q : Value → Loc → Led → Prop} (hl : Has C led d o) (hd : o.IsDictOf knd kvs) (hs : (d == sysModules) = false) (hz : kvs.length < 2 ^ 62) (h : ∀ t, Q (.int kvs.length t) m led) : T C m led (call (.builtin "len") [.ref d]) Q :=
  fun s P => call_len_dict hs (hl.dictOf hd P) (by omega) ⟨m, led, P.tk _, h _⟩
theorem r_gmDict {name : Str} {id : String} {pl : Sem Bool} {Q : Value × List Value → Loc → Led → Prop} (hl : Has C led d o) (hd : o.IsDictOf knd kvs) (slot : Slot "dict" name id) (hty : typeOf (.builtin id) = pure (.type "method_descriptor"))
    (h : Q (.builtin id, [.ref d]) m led) : T C m led (getMethod (.ref d) name pl) Q := fun s P => getMethod_builtin (hl.dictOf hd P).typeIs PySem.F.plainAttrs_dict slot hty (hl.dictOf hd P).mapOf.noDict ⟨m, led, P, h⟩
theorem r_dGet1 {Q : Value → Loc → Led → Prop} (hl : Has C led d o) (hd : o.IsDictOf knd kvs) (hs : (d == sysModules) = false) (hk : knd.is k key = true) (h : Q ((valueAt kvs k).getD .none) m led) : T C m led (call (.builtin "dict.get") [.ref d, key]) Q :=
  fun s P => call_meetsIn PySem.F.slot_dict_get (hl.dictOf hd P).typeIs PySem.F.entry_dict_get (PySem.F.args_dict_get_2 _ _) (meets_dict_get knd d hk hs) ⟨_, (hl.dictOf hd P).mapOf, ⟨m, led, P.tk _, h⟩⟩
theorem r_dGet2 {df : Value} {Q : Value → Loc → Led → Prop} (hl : Has C led d o) (hd : o.IsDictOf knd kvs) (hs : (d == sysModules) = false) (hk : knd.is k key = true) (h : Q ((valueAt kvs k).getD df) m led) : T C m led (call (.builtin "dict.get") [.ref d, key, df]) Q :=
  fun s P => call_meetsIn PySem.F.slot_dict_get (hl.dictOf hd P).typeIs PySem.F.entry_dict_get (PySem.F.args_dict_get_3 _ _ _) (meets_dict_get_default knd d hk hs df) ⟨_, (hl.dictOf hd P).mapOf, ⟨m, led, P.tk _, h⟩⟩
theorem r_pairsNil {Q : List (Value × Value) → Loc → Led → Prop} (h : Q [] m led) : T C m led (evalPairs []) Q := fun s P => evalPairs_nil ⟨m, led, P, h⟩
theorem r_pairsCons {kx vx : Sem Value} {rest : List (Sem Value × Sem Value)} {Q : List (Value × Value) → Loc → Led → Prop}
    (h : T C m led kx fun kv m1 l1 => T C m1 l1 vx fun vv m2 l2 => T C m2 l2 (evalPairs rest) fun vs => Q ((kv, vv) :: vs)) : T C m led (evalPairs ((kx, vx) :: rest)) Q :=
  fun s P => evalPairs_cons (h.run P fun v s1 m1 l1 P1 h1 => h1.run P1 fun ov s2 m2 l2 P2 h2 => h2 s2 P2)
theorem r_dispVal {e : Expr} {pos : Pos} {Q : Value → Loc → Led → Prop} (h : T C m led (eval e env) Q) : T C m led (do let x ← eval e env; standAt pos; pure x) Q :=
  r_bind (h.mono fun a m1 l1 h1 => r_bind (r_standAt (r_pure h1)))
theorem r_Disp {keys : List (Option Expr)} {values : List Expr} {pos : Pos} {pairs : List (Sem Value × Sem Value)} {Q : Value → Loc → Led → Prop} (knd : PySem.KeyKind PG C.W.w K)
    (hshape : (evalEachOpt keys env).zip ((evalEach values env).map fun v => do let x ← v; standAt pos; pure x) = pairs.map fun p => (some p.1, p.2)) (h0 : pairs ≠ []) (hlen : pairs.length ≤ 15)
    (h : ∀ a, (a == sysModules) = false → T C m ((a, { cls := .type "dict", data := .dict #[] }) :: led) (evalPairs pairs) fun vs m1 l1 => ∃ kvs l2, Carries knd vs kvs ∧ List.Sublist ((a, { cls := .type "dict", data := .dict #[] }) :: l2) l1 ∧ ∀ o, o.IsDictOf knd (merged [] kvs) → Q (.ref a) m1 ((a, o) :: l2)) :
    T C m led (eval (.Dict keys values pos) env) Q := fun s P => by
  refine wpAny_Dict_pairs (knd := knd) hshape h0 hlen ?_
  refine (h s.heap.objs.size P.lowMods).run (P.alloc _) fun vs s1 m1 l1 P1 ⟨kvs, l2, hc, hsub, hq⟩ => ⟨kvs, hc, ?_, fun h' hm hsb => ?_⟩
  · exact Heap.dictOf_iff.mpr ⟨_, P1.get (hsub.subset List.mem_cons_self), dictO_new⟩
  · obtain ⟨o', ho', hd'⟩ := Heap.dictOf_iff.mp hm
    exact ⟨m1, _, (P1.drop hsub).moved ho' (fun b x hb e => hsb.extBut b x hb e) _, hq o' hd'⟩
end
section
variable {C : Cx} {m : Loc} {led : Led} {env : Env}
def IsSelf (C : Cx) (I : Addr) (S : Nat → Obj → Prop) (dep : Led → Prop) : Prop :=
  ∀ (E' : Value → Shared → Prop) i o m l (Q : Value → Loc → Led → Prop), S i o → dep l → Q (.ref I) m ((I, o) :: l) → T (C.e E') m ((I, o) :: l) (pyIter (.ref I)) Q
theorem isSelf_of_walks {I : Addr} {fp : List Addr} {n : Nat} {P : Nat → Value → Prop} {St : Nat → Heap → Prop} {S : Nat → Obj → Prop} {dep : Led → Prop} (Wk : Walks PG C.W.w C.A I fp [I] n P St)
    (ofS : ∀ i m l s o, Pt C.W C.β C.L m ((I, o) :: l) s → S i o → dep l → St i s.heap) : IsSelf C I S dep :=
  fun E' i o m l Q hS hd h s Pp => Wk.self i s _ _ (ofS i m l s o Pp hS hd) ⟨m, _, Pp, h⟩
structure IsIt (C : Cx) (I : Addr) (n : Nat) (items : Nat → Value → Led → Prop) (S : Nat → Obj → Prop) (dep : Led → Prop) : Prop where
  it : IsIter C I n items S dep
  self : IsSelf C I S dep
theorem isIt_of_walks {I : Addr} {fp : List Addr} {n : Nat} {P : Nat → Value → Prop} {St : Nat → Heap → Prop} {S : Nat → Obj → Prop} {dep : Led → Prop} (Wk : Walks PG C.W.w C.A I fp [I] n P St)
    (toS : ∀ i h, St i h → ∃ o, h.get? I = some o ∧ S i o) (ofS : ∀ i m l s o, Pt C.W C.β C.L m ((I, o) :: l) s → S i o → dep l → St i s.heap) : IsIt C I n (fun i v ex => P i v ∧ ex = []) S dep :=
  ⟨isIter_of_walks Wk toS ofS, isSelf_of_walks Wk ofS⟩
theorem IsIt.imp {I : Addr} {n : Nat} {items items' : Nat → Value → Led → Prop} {S : Nat → Obj → Prop} {dep : Led → Prop} (X : IsIt C I n items S dep) (h : ∀ i v ex, items i v ex → items' i v ex) : IsIt C I n items' S dep :=
  ⟨⟨fun E' i o m l Q hi hS hd k => X.it.item E' i o m l Q hi hS hd fun v o' ex hx => k v o' ex (h i v ex hx), X.it.done⟩, X.self⟩
theorem it_list {I l : Addr} {vs : List Value} {n : Nat} (hh : C.A.handled = none) (hne : l ≠ I) : IsIt C I vs.length (fun i v ex => vs[i]? = some v ∧ ex = []) (LiO l) (fun led => Has C led l (listO vs n)) := by
  refine ⟨iter_list hh hne, ?_⟩
  exact isSelf_of_walks (S := LiO l) (dep := fun led => Has C led l (listO vs n)) (Walks.list (prog := PG) (w := C.W.w) hh I l hne vs.toArray)
    (fun i m l' s o P hS hd => ⟨⟨o, P.get List.mem_cons_self, hS.1, hS.2⟩, (Has.tail hd).isList P⟩)
def TiO (l : Addr) (i : Nat) (o : Obj) : Prop := o.cls = .type "tuple_iterator" ∧ o.data = .fields #[.ref l, .int i 0]
abbrev tiO (l : Addr) (i : Nat) : Obj := { cls := .type "tuple_iterator", data := .fields #[.ref l, .int i 0] }
theorem it_tup {I l : Addr} {vs : List Value} (hh : C.A.handled = none) (hne : l ≠ I) : IsIt C I vs.length (fun i v ex => vs[i]? = some v ∧ ex = []) (TiO l) (fun led => Has C led l (tupO vs)) := by
  have Wk := Walks.tuple (prog := PG) (w := C.W.w) hh I l hne vs.toArray
  rw [List.size_toArray] at Wk
  refine (isIt_of_walks (S := TiO l) (dep := fun led => Has C led l (tupO vs)) Wk (fun i h st => let ⟨o, h1, h2, h3⟩ := st.1; ⟨o, h1, h2, h3⟩)
    (fun i m l' s o P hS hd => ⟨⟨o, P.get List.mem_cons_self, hS.1, hS.2⟩, ⟨_, (Has.tail hd).get P, rfl, _, rfl⟩⟩)).imp fun i v ex hx => ⟨by simpa using hx.1, hx.2⟩
theorem r_iterTup {l : Addr} {vs : List Value} {Q : Value → Loc → Led → Prop} (hl : Has C led l (tupO vs)) (h : ∀ it, l ≠ it → Q (.ref it) m ((it, tiO l 0) :: led)) : T C m led (pyIter (.ref l)) Q :=
  fun s P => wpAny_pyIter_tuple (items := vs.toArray) ⟨_, hl.get P, rfl, _, rfl⟩ ⟨m, _, P.alloc _, h _ (Nat.ne_of_lt (Heap.lt_size (hl.get P)))⟩
def RiO (a c : Int) (n : Nat) (i : Nat) (o : Obj) : Prop := o = { cls := .type "range_iterator", data := .fields #[rawInt (a + (i : Nat) * c), rawInt ((n : Int) - (i : Nat)), rawInt c] }
end
end
section
section
variable {C : Cx} {m : Loc} {led : Led} {env : Env}
abbrev rangeO (a b c : Int) (t u v : Tok) : Obj := { cls := .type "range", data := .fields #[.int a t, .int b u, .int c v] }
abbrev riO (a c left : Int) : Obj := { cls := .type "range_iterator", data := .fields #[rawInt a, rawInt left, rawInt c] }
theorem r_range1 {n : Int} {t : Tok} {Q : Value → Loc → Led → Prop} (h : ∀ r t1 t2, Q (.ref r) m ((r, rangeO 0 n 1 t1 t t2) :: led)) : T C m led (call (.type "range") [.int n t]) Q :=
  fun s P => call_range_1 ⟨m, _, (P.alloc _).tk _, h _ _ _⟩
theorem r_iterRange {r : Addr} {a b : Int} {t u v : Tok} {n : Nat} {Q : Value → Loc → Led → Prop} (hr : Has C led r (rangeO a b 1 t u v)) (hn : (n : Int) = if a < b then b - a else 0) (ha : -(2 ^ 62) ≤ a) (ha' : a < 2 ^ 62) (hb : -(2 ^ 62) ≤ b) (hb' : b < 2 ^ 62)
    (h : ∀ it, Q (.ref it) m ((it, riO a 1 n) :: led)) : T C m led (pyIter (.ref r)) Q := fun s P => by
  refine wpAny_pyIter_range (hr.get P) (small_one ha ha' hb hb') ?_
  rw [rangeSize_one, ← hn]
  exact ⟨m, _, P.alloc _, h _⟩
theorem it_range {I : Addr} {a : Int} {n : Nat} (hh : C.A.handled = none) : IsIt C I n (fun i v ex => (∃ t, v = .int (a + i) t) ∧ ex = []) (fun i o => o = riO (a + (i : Nat)) 1 ((n : Int) - (i : Nat))) (fun _ => True) := by
  have Wk := Walks.range (prog := PG) (w := C.W.w) hh I a 1 n
  refine (isIt_of_walks (S := fun i o => o = riO (a + (i : Nat)) 1 ((n : Int) - (i : Nat))) (dep := fun _ => True) Wk (fun i h st => ⟨_, st, by simp⟩) (fun i m l s o P hS _ => ?_)).imp fun i v ex ⟨⟨t, ht⟩, hx⟩ => ⟨⟨t, by simpa using ht⟩, hx⟩
  have := P.get (a := I) List.mem_cons_self
  rw [hS] at this
  simpa using this
variable {K : Type} [DecidableEq K] {knd : PySem.KeyKind PG C.W.w K} {d : Addr} {o : Obj} {kvs : List (K × Value)}
def DiO (cls : String) (d : Addr) (n : Nat) (ep : Nat) (i : Nat) (o : Obj) : Prop := o.cls = .type cls ∧ o.data = .fields #[.ref d, .int i 0, .int n 0, .int ep 0]
theorem dictAt_of (hd : o.IsDictOf knd kvs) : ∃ ep, ∀ {led : Led} {m : Loc} {s : Shared}, Has C led d o → Pt C.W C.β C.L m led s → s.heap.DictAt knd d kvs ep :=
  let ⟨es, ep, h1, h2, h3⟩ := hd; ⟨ep, fun hl P => ⟨o, es, hl.get P, h1, h2, h3⟩⟩
theorem r_iterDict {Q : Value → Loc → Led → Prop} (hh : C.A.handled = none) (hl : Has C led d o) (hd : o.IsDictOf knd kvs) (hs : (d == sysModules) = false)
    (h : ∀ it ep oi, d ≠ it → DiO "dict_keyiterator" d kvs.length ep 0 oi → (∀ β' L' E', Up C.β β' → IsIt ⟨C.W, C.A, E', β', L'⟩ it kvs.length (fun i v ex => (∃ k x, kvs[i]? = some (k, x) ∧ knd.is k v = true) ∧ ex = []) (DiO "dict_keyiterator" d kvs.length ep) (fun led => Has ⟨C.W, C.A, E', β', L'⟩ led d o)) →
      Q (.ref it) m ((it, oi) :: led)) : T C m led (pyIter (.ref d)) Q := fun s P => by
  obtain ⟨es, ep, h1, h2, h3⟩ := id hd
  have D : ∀ {A' : Around} {β' : Addr → Option Obj} {L' : Addr} {E' : Value → Shared → Prop} {led : Led} {m : Loc} {s : Shared}, Has ⟨C.W, A', E', β', L'⟩ led d o → Pt C.W β' L' m led s → s.heap.DictAt knd d kvs ep := fun hl P => ⟨o, es, hl.get P, h1, h2, h3⟩
  have hne : d ≠ s.heap.objs.size := Nat.ne_of_lt (Heap.lt_size (hl.get P))
  refine wpAny_pyIter_dict hs (D hl P) ⟨m, _, P.alloc _, h _ ep _ hne ⟨rfl, rfl⟩ fun β' L' E' up => ?_⟩
  exact isIt_of_walks (C := ⟨C.W, C.A, E', β', L'⟩) (S := DiO "dict_keyiterator" d kvs.length ep) (dep := fun led => Has ⟨C.W, C.A, E', β', L'⟩ led d o) (Walks.dictKeys (prog := PG) (w := C.W.w) (knd := knd) hh _ d hne kvs ep)
    (fun i h st => let ⟨o, h1, h2, h3⟩ := st.1; ⟨o, h1, h2, h3⟩) (fun i m l s oi P' hS hd => ⟨⟨oi, P'.get List.mem_cons_self, hS.1, hS.2⟩, D (Has.tail hd) P'⟩)
theorem r_dValues {Q : Value → Loc → Led → Prop} (hl : Has C led d o) (hd : o.IsDictOf knd kvs) (hs : (d == sysModules) = false) (h : ∀ v, Q (.ref v) m ((v, { cls := .type "dict_values", data := .fields #[.ref d] }) :: led)) :
    T C m led (call (.builtin "dict.values") [.ref d]) Q :=
  fun s P => call_meetsIn PySem.F.slot_dict_values (hl.dictOf hd P).typeIs PySem.F.entry_dict_values (PySem.F.args_dict_values_1 _) (meets_dict_values knd d hs) ⟨⟨_, hl.dictOf hd P⟩, ⟨m, _, P.alloc _, h _⟩⟩
theorem r_dItems {Q : Value → Loc → Led → Prop} (hl : Has C led d o) (hd : o.IsDictOf knd kvs) (hs : (d == sysModules) = false) (h : ∀ v, Q (.ref v) m ((v, { cls := .type "dict_items", data := .fields #[.ref d] }) :: led)) :
    T C m led (call (.builtin "dict.items") [.ref d]) Q :=
  fun s P => call_meetsIn PySem.F.slot_dict_items (hl.dictOf hd P).typeIs PySem.F.entry_dict_items (PySem.F.args_dict_items_1 _) (meets_dict_items knd d hs) ⟨⟨_, hl.dictOf hd P⟩, ⟨m, _, P.alloc _, h _⟩⟩
theorem r_iterValues {v : Addr} {Q : Value → Loc → Led → Prop} (hh : C.A.handled = none) (hv : Has C led v { cls := .type "dict_values", data := .fields #[.ref d] }) (hl : Has C led d o) (hd : o.IsDictOf knd kvs)
    (h : ∀ it ep oi, d ≠ it → DiO "dict_valueiterator" d kvs.length ep 0 oi → (∀ β' L' E', Up C.β β' → IsIt ⟨C.W, C.A, E', β', L'⟩ it kvs.length (fun i v ex => (∃ k, kvs[i]? = some (k, v)) ∧ ex = []) (DiO "dict_valueiterator" d kvs.length ep) (fun led => Has ⟨C.W, C.A, E', β', L'⟩ led d o)) →
      Q (.ref it) m ((it, oi) :: led)) : T C m led (pyIter (.ref v)) Q := fun s P => by
  obtain ⟨es, ep, h1, h2, h3⟩ := id hd
  have D : ∀ {A' : Around} {β' : Addr → Option Obj} {L' : Addr} {E' : Value → Shared → Prop} {led : Led} {m : Loc} {s : Shared}, Has ⟨C.W, A', E', β', L'⟩ led d o → Pt C.W β' L' m led s → s.heap.DictAt knd d kvs ep := fun hl P => ⟨o, es, hl.get P, h1, h2, h3⟩
  have hne : d ≠ s.heap.objs.size := Nat.ne_of_lt (Heap.lt_size (hl.get P))
  refine wpAny_pyIter_values ⟨_, hv.get P, rfl, rfl⟩ (D hl P) ⟨m, _, P.alloc _, h _ ep _ hne ⟨rfl, rfl⟩ fun β' L' E' up => ?_⟩
  exact isIt_of_walks (C := ⟨C.W, C.A, E', β', L'⟩) (S := DiO "dict_valueiterator" d kvs.length ep) (dep := fun led => Has ⟨C.W, C.A, E', β', L'⟩ led d o) (Walks.dictValues (prog := PG) (w := C.W.w) (knd := knd) hh _ d hne kvs ep)
    (fun i h st => let ⟨o, h1, h2, h3⟩ := st.1; ⟨o, h1, h2, h3⟩) (fun i m l s oi P' hS hd => ⟨⟨oi, P'.get List.mem_cons_self, hS.1, hS.2⟩, D (Has.tail hd) P'⟩)
abbrev iiO (h : Value) (d : Addr) (i n ep : Nat) (ok ov : Value) : Obj := { cls := .type "dict_itemiterator", data := .fields #[h, .bool false, .ref d, .int i 0, .int n 0, .int ep 0, ok, ov] }
theorem r_iterItems {v : Addr} {Q : Value → Loc → Led → Prop} (hv : Has C led v { cls := .type "dict_items", data := .fields #[.ref d] }) (hl : Has C led d o) (hd : o.IsDictOf knd kvs)
    (h : ∀ it ep, (∃ es, o.data = .dict es ep) → Q (.ref it) m ((it, iiO .none d 0 kvs.length ep .none .none) :: led)) : T C m led (pyIter (.ref v)) Q := fun s P => by
  obtain ⟨es, ep, h1, h2, h3⟩ := id hd
  exact wpAny_pyIter_items (knd := knd) ⟨_, hv.get P, rfl, rfl⟩ ⟨o, es, hl.get P, h1, h2, h3⟩ ⟨m, _, P.alloc _, h _ ep ⟨es, h2⟩⟩
theorem Pt.newAt {W : Wd} {β : Addr → Option Obj} {L : Addr} {m : Loc} {led : Led} {s : Shared} {o : Obj} {h' : Heap} (P : Pt W β L m led s) (hk : ∀ b x, s.heap.get? b = some x → h'.get? b = some x) (ho : h'.get? s.heap.objs.size = some o) (t : Nat) :
    Pt W β L m ((s.heap.objs.size, o) :: led) { s with heap := h', toks := t } := by
  have X := P.ext hk t
  refine ⟨X.base, X.keep, X.off, X.ns, ?_, ?_, X.gens, X.os⟩
  · intro p hp
    rcases List.mem_cons.mp hp with rfl | hp
    · refine ⟨ho, Nat.ne_of_gt P.ns.lt, ?_⟩
      cases hq : β s.heap.objs.size with
      | none => rfl
      | some o' => exact absurd (P.ltβ hq) (Nat.lt_irrefl _)
    · exact X.own p hp
  · refine List.nodup_cons.mpr ⟨fun hm => ?_, P.nd⟩
    obtain ⟨p, hp, e⟩ := List.mem_map.mp hm
    exact absurd (Heap.lt_size (P.own p hp).1) (by rw [e]; exact Nat.lt_irrefl _)
theorem Pt.movedNew {W : Wd} {β : Addr → Option Obj} {L : Addr} {m : Loc} {led : Led} {s : Shared} {a : Addr} {o o' on : Obj} {h' : Heap} (P : Pt W β L m ((a, o) :: led) s) (ho : h'.get? a = some o') (hn : h'.get? s.heap.objs.size = some on)
    (hk : ∀ b x, b ≠ a → s.heap.get? b = some x → h'.get? b = some x) (t : Nat) : Pt W β L m ((s.heap.objs.size, on) :: (a, o') :: led) { s with heap := h', toks := t } := by
  have X := P.moved ho hk t
  refine ⟨X.base, X.keep, X.off, X.ns, ?_, ?_, X.gens, X.os⟩
  · intro p hp
    rcases List.mem_cons.mp hp with rfl | hp
    · refine ⟨hn, Nat.ne_of_gt P.ns.lt, ?_⟩
      cases hq : β s.heap.objs.size with
      | none => rfl
      | some o' => exact absurd (P.ltβ hq) (Nat.lt_irrefl _)
    · exact X.own p hp
  · refine List.nodup_cons.mpr ⟨fun hm => ?_, X.nd⟩
    have hm' : s.heap.objs.size ∈ ((a, o) :: led).map (·.1) := hm
    obtain ⟨p, hp, e⟩ := List.mem_map.mp hm'
    exact absurd (Heap.lt_size (P.own p hp).1) (by rw [e]; exact Nat.lt_irrefl _)
theorem r_nextItems {it : Addr} {i n ep : Nat} {ok ov : Value} {k : K} {x : Value} {Q : Option Value → Loc → Led → Prop} (hl : Has C led d o) (hd : o.IsDictOf knd kvs) (hep : ∃ es, o.data = .dict es ep) (hn : n = kvs.length) (hx : kvs[i]? = some (k, x))
    (h : ∀ key a, knd.is k key = true → Q (some (.ref a)) m ((a, tupO [key, x]) :: (it, iiO (rawInt a) d (i + 1) n ep key x) :: led)) : T C m ((it, iiO .none d i n ep ok ov) :: led) (pyNext (.ref it)) Q := fun s P => by
  obtain ⟨es, ep', h1, h2, h3⟩ := id hd
  obtain ⟨es', he⟩ := hep
  obtain rfl : ep' = ep := by rw [h2] at he; injection he
  subst hn
  refine wpAny_pyNext_items_item (knd := knd) (P.get List.mem_cons_self) ⟨o, es, (Has.tail hl).get P, h1, h2, h3⟩ hx fun key h' hk hit htup hsz hkeep => ?_
  exact ⟨m, _, P.movedNew hit htup (fun b x hb e => hkeep b x hb e) _, h key _ hk⟩
theorem r_letItems {it a : Addr} {i n ep : Nat} {ok ov : Value} {elts : List Expr} {x1 : Nat} {pos : Pos} {pre : Led} {Q : Unit → Loc → Led → Prop} (h : Q () m (pre ++ (it, iiO .none d i n ep ok ov) :: led)) :
    T C m (pre ++ (it, iiO (rawInt a) d i n ep ok ov) :: led) (letOwnedTupleGo (.Tuple elts x1 pos) (.ref it) (.ref a)) Q := fun s P =>
  wpAny_letOwnedTupleGo_items (P.get (by simp)) fun h' hit hsb => ⟨m, _, P.movedAt hit (fun b x hb e => hsb.extBut b x hb e) _, h⟩
end
end
section
section
variable {prog : Program} {w : World} {A : Around} {E : Value → Shared → Prop} {s : Shared}
open AutoSeq1 (wpAny_loadPart')
theorem new_enumTup (l : Addr) (items : Array Value) (n : Nat) :
    Meets (Builtin.«enumerate.__new__» ⟨[.type "enumerate", .ref l], []⟩) (fun _ R s => s.heap.get? l = some { cls := .type "tuple", dict := none, data := .seq items n, slots := #[] } ∧
      R (.ok (.ret (.ref (s.heap.push { cls := .type "tuple_iterator", data := .fields #[.ref l, .int 0 0] }).objs.size)))
        { s with heap := (s.heap.push { cls := .type "tuple_iterator", data := .fields #[.ref l, .int 0 0] }).push { cls := .type "enumerate", data := .fields #[.none, .bool false, .ref s.heap.objs.size, rawInt 0, .none, .none] } }) :=
  .of_wp fun prog w A R s h => by
    obtain ⟨hp, g, d, tk, os⟩ := s; obtain ⟨hl, h⟩ := h
    have hsub := sub_enumerate
    have hL : Heap.IsTuple (Shared.heap ⟨hp, g, d, tk, os⟩) l items := ⟨_, hl, rfl, n, rfl⟩
    wp_walk using wpAny_loadPart' hl
    refine wpAny_stack_any fun st => wpAny_pure ?_
    split
    · rename_i c _ _ _ _ _
      cases (c == Value.type "enumerate")
      · wp_walk using wpAny_loadPart' hl, wpAny_pyIter_tuple hL
        exact ⟨_, rfl, h⟩
      · wp_walk using wpAny_loadPart' hl, wpAny_pyIter_tuple hL
        exact ⟨_, rfl, h⟩
    · wp_walk using wpAny_loadPart' hl, wpAny_pyIter_tuple hL
      exact ⟨_, rfl, h⟩
theorem call_enumTup {l : Addr} {items : Array Value} {n : Nat} {Q : Value → Shared → Prop}
    (hl : s.heap.get? l = some { cls := .type "tuple", dict := none, data := .seq items n, slots := #[] })
    (h : Q (.ref (s.heap.objs.size + 1)) { s with heap := (s.heap.push { cls := .type "tuple_iterator", data := .fields #[.ref l, .int 0 0] }).push { cls := .type "enumerate", data := .fields #[.none, .bool false, .ref s.heap.objs.size, rawInt 0, .none, .none] } }) :
    wpAny (model prog w) A (call (.type "enumerate") [.ref l]) Q E s := by
  refine callType_new F.called_enumerate (by decide) (F.typeCall_enumerate_1 _) (F.newCall_enumerate_1 _) (fun obj => F.args_object_init_2 obj _) F.entry_enumerate_new
    (new_enumTup l items n) ⟨hl, ?_⟩
  have hz : (s.heap.push { cls := .type "tuple_iterator", data := .fields #[.ref l, .int 0 0] }).objs.size = s.heap.objs.size + 1 := Heap.size_push ..
  show _ ∧ _
  have he := Heap.get?_push_size (s.heap.push { cls := .type "tuple_iterator", data := .fields #[.ref l, .int 0 0] })
      (o := { cls := .type "enumerate", data := .fields #[.none, .bool false, .ref s.heap.objs.size, rawInt 0, .none, .none] }) rfl
  exact ⟨⟨_, he, rfl⟩, by rw [hz]; exact h⟩
theorem nextOf_tup_item {it l : Addr} {i : Nat} {items} {x : Value} {Q : Value → Shared → Prop} (hit : s.heap.IsTupleIter it l i)
    (hl : s.heap.IsTuple l items) (hx : items[i]? = some x)
    (hQ : ∀ h', h'.IsTupleIter it l (i + 1) → Heap.SameBut it s.heap h' → Q x { s with heap := h' }) :
    wpAny (model prog w) A (Builtin.SmallTypes.nextOf (.ref it)) Q E s := by
  obtain ⟨o, ho, hc, hd⟩ := id hit
  obtain ⟨ol, hol, _, nl, hdl⟩ := hl
  unfold Builtin.SmallTypes.nextOf
  refine wpAny_bind (wpAny_callSpecial?_slot (name := Str.ofString "__next__") hit.typeIs F.slot_tuple_iterator_next
    (wpAny_call_entry F.slot_tuple_iterator_next hit.typeIs F.entry_tuple_iterator_next ?_ (F.args_tuple_iterator_next_1 _)))
  show wpAny _ _ (field (.ref it) 0 >>= _) _ _ s
  refine wpAny_bind (wpAny_field ho hd (x := .ref l) rfl ?_)
  show wpAny _ _ (if (Value.ref l == Value.none) = true then _ else _) _ _ s
  rw [if_neg (show ¬ ((Value.ref l == Value.none) = true) from Bool.false_ne_true)]
  show wpAny _ _ (field (.ref it) 1 >>= _) _ _ s
  refine wpAny_bind (wpAny_field ho hd (x := .int i 0) rfl ?_)
  show wpAny _ _ (seqItems? (.ref l) >>= _) _ _ s
  refine wpAny_bind (wpAny_seqItems hol hdl ?_)
  simp only [Int.toNat_natCast, hx]
  refine wpAny_bind (wpAny_setField ho hd (by simp) (wpAny_pure ⟨x, rfl, wpAny_pure (hQ _ ?_ (Heap.SameBut.update ..))⟩))
  exact ⟨_, Heap.get?_update_self _ ho (Obj.isFreed_of_fields (Obj.data_mapFields hd _)), (Obj.cls_mapFields ..).trans hc, by
    rw [Obj.data_mapFields hd]; simp [rawInt]⟩
theorem nextOf_tup_end {it l : Addr} {i : Nat} {items} {Q : Value → Shared → Prop} (hh : A.handled = none)
    (hit : s.heap.IsTupleIter it l i) (hl : s.heap.IsTuple l items) (hx : items[i]? = none)
    (hE : ∀ h' e, Heap.ExtBut it s.heap h' → (∃ o, h'.get? e = some o ∧ o.cls = .type "StopIteration") → E (.ref e) { s with heap := h' }) :
    wpAny (model prog w) A (Builtin.SmallTypes.nextOf (.ref it)) Q E s := by
  obtain ⟨o, ho, hc, hd⟩ := id hit
  obtain ⟨ol, hol, _, nl, hdl⟩ := hl
  unfold Builtin.SmallTypes.nextOf
  refine wpAny_bind (wpAny_callSpecial?_slot (name := Str.ofString "__next__") hit.typeIs F.slot_tuple_iterator_next
    (wpAny_call_entry F.slot_tuple_iterator_next hit.typeIs F.entry_tuple_iterator_next ?_ (F.args_tuple_iterator_next_1 _)))
  show wpAny _ _ (field (.ref it) 0 >>= _) _ _ s
  refine wpAny_bind (wpAny_field ho hd (x := .ref l) rfl ?_)
  show wpAny _ _ (if (Value.ref l == Value.none) = true then _ else _) _ _ s
  rw [if_neg (show ¬ ((Value.ref l == Value.none) = true) from Bool.false_ne_true)]
  show wpAny _ _ (field (.ref it) 1 >>= _) _ _ s
  refine wpAny_bind (wpAny_field ho hd (x := .int i 0) rfl ?_)
  show wpAny _ _ (seqItems? (.ref l) >>= _) _ _ s
  refine wpAny_bind (wpAny_seqItems hol hdl ?_)
  simp only [Int.toNat_natCast, hx]
  refine wpAny_bind (wpAny_rule (wpAny_bind (wpAny_setField ho hd (by simp) ?_)))
  show wpAny _ _ (newExc (.type "StopIteration") [] >>= _) _ _ _
  refine wpAny_bind ?_
  simp only [newExc, newTuple]
  refine wpAny_bind (wpAny_newObj_type ?_ (by size_fits))
  refine wpAny_bind (m := firstArgMember _ _) (wpAny_of_eq (a := Value.none) (by first | rfl | (simp only [firstArgMember]; rfl)) ?_)
  refine wpAny_newObj_type ?_ (by size_fits)
  simp only [raiseNew]
  refine wpAny_bind (wpAny_handled ?_)
  first | rw [show A.in1.handled = none from hh] | rw [hh]
  refine wpAny_bind (wpAny_pure (wpAny_throw ?_))
  exact hE _ _ (((Heap.SameBut.update ..).extBut.push _).push _) ⟨_, Heap.get?_push_size _ rfl, rfl⟩
theorem pyNext_enumTup_item {e it l : Addr} {i : Nat} {items : Array Value} {x old : Value} {Q : Option Value → Shared → Prop}
    (he : IsEnum s.heap e it i old) (hit : s.heap.IsTupleIter it l i) (hl : s.heap.IsTuple l items) (hx : items[i]? = some x) (hne : e ≠ it)
    (hQ : ∀ h', IsEnumOut h' e it ((i : Int) + 1) x s.heap.objs.size → h'.IsTupleIter it l (i + 1) →
      h'.get? s.heap.objs.size = some { cls := .type "tuple", data := .seq #[.int i s.toks, x] } → h'.objs.size = s.heap.objs.size + 1 →
      (∀ b o, b ≠ e → b ≠ it → s.heap.get? b = some o → h'.get? b = some o) → Q (some (.ref s.heap.objs.size)) { s with heap := h', toks := s.toks + 1 }) :
    wpAny (model prog w) A (pyNext (.ref e)) Q E s := by
  have hT : s.TypeIs (.ref e) "enumerate" := ⟨_, he, rfl⟩
  unfold pyNext
  refine wpAny_bind (wpAny_attempt (wpAny_callSpecial?_slot (name := Str.ofString "__next__") hT F.slot_enumerate_next
    (wpAny_call_entry F.slot_enumerate_next hT F.entry_enumerate_next ?_ (F.args_enumerate_next_1 _))))
  obtain ⟨hp, g, d, tk, os⟩ := s
  show wpAny _ _ (field (.ref e) 2 >>= _) _ _ _
  refine wpAny_bind (wpAny_field he rfl (x := .ref it) rfl ?_)
  refine wpAny_bind (nextOf_tup_item hit hl hx fun h₁ hit₁ hs₁ => ?_)
  replace hs₁ : Heap.SameBut it hp h₁ := hs₁
  have he₁ : IsEnum h₁ e it i old := (hs₁.2 e hne).trans he
  show wpAny _ _ (field (.ref e) 3 >>= _) _ _ ⟨h₁, g, d, tk, os⟩
  refine wpAny_bind (wpAny_field he₁ rfl (x := rawInt i) rfl ?_)
  show wpAny _ _ (field (.ref e) 4 >>= _) _ _ ⟨h₁, g, d, tk, os⟩
  refine wpAny_bind (wpAny_field he₁ rfl (x := .none) rfl ?_)
  show wpAny _ _ (mkInt i >>= _) _ _ ⟨h₁, g, d, tk, os⟩
  refine wpAny_bind (wpAny_mkInt ?_)
  show wpAny _ _ (setField (.ref e) 3 (rawInt ((i : Int) + 1)) >>= _) _ _ ⟨h₁, g, d, tk + 1, os⟩
  refine wpAny_bind (wpAny_setField_rec he₁ (by simp) fun h₂ he₂ hs₂ => ?_)
  replace hs₂ : Heap.SameBut e h₁ h₂ := hs₂
  replace he₂ : IsEnum h₂ e it ((i : Int) + 1) old := he₂
  show wpAny _ _ (setField (.ref e) 4 .none >>= _) _ _ ⟨h₂, g, d, tk + 1, os⟩
  refine wpAny_bind (wpAny_setField_rec he₂ (by simp) fun h₃ he₃ hs₃ => ?_)
  replace hs₃ : Heap.SameBut e h₂ h₃ := hs₃
  replace he₃ : IsEnum h₃ e it ((i : Int) + 1) old := he₃
  show wpAny _ _ (newTuple [.int i tk, x] >>= _) _ _ ⟨h₃, g, d, tk + 1, os⟩
  refine wpAny_bind (PySem.wpAny_newTuple ?_)
  have he₄ : IsEnum (h₃.push { cls := .type "tuple", data := .seq #[.int i tk, x] }) e it ((i : Int) + 1) old := Heap.get?_push_of_some _ he₃
  generalize hh₄ : h₃.push { cls := .type "tuple", data := .seq #[.int i tk, x] } = h₄ at he₄
  have hsz : h₃.objs.size = hp.objs.size := by rw [hs₃.1, hs₂.1, hs₁.1]
  have hel : e < hp.objs.size := Heap.lt_size he
  have ht₄ : h₄.get? hp.objs.size = some { cls := .type "tuple", data := .seq #[.int i tk, x] } := by rw [← hh₄, ← hsz]; exact Heap.get?_push_size _ rfl
  have hz₄ : h₄.objs.size = hp.objs.size + 1 := by rw [← hh₄, Heap.size_push, hsz]
  have hk₄ : ∀ b o, b ≠ e → b ≠ it → hp.get? b = some o → h₄.get? b = some o := fun b o hbe hbi hb => by
    rw [← hh₄]; exact Heap.get?_push_of_some _ (hs₃.extBut b o hbe (hs₂.extBut b o hbe (hs₁.extBut b o hbi hb)))
  have hit₄ : h₄.IsTupleIter it l (i + 1) := by
    rw [← hh₄]; obtain ⟨o, ho, r⟩ := (hit₁.extBut hs₂.extBut (Ne.symm hne)).extBut hs₃.extBut (Ne.symm hne); exact ⟨o, Heap.get?_push_of_some _ ho, r⟩
  show wpAny _ _ (Builtin.SmallTypes.ownedTupleIsFree (.ref e) >>= _) _ _ ⟨h₄, g, d, tk + 1, os⟩
  rw [hsz]
  clear hh₄ he₃ hs₃ he₂ hs₂ he₁ hs₁ hit₁ hsz h₃ h₂ h₁
  refine wpAny_bind ?_
  · unfold Builtin.SmallTypes.ownedTupleIsFree
    refine wpAny_bind (wpAny_field he₄ rfl (x := .none) rfl (wpAny_pure ?_))
    simp only [if_true]
    refine wpAny_bind (wpAny_rule ?_)
    refine wpAny_bind (wpAny_field he₄ rfl (x := old) rfl ?_)
    refine wpAny_bind (wpAny_setField_rec he₄ (by simp) fun h₅ he₅ hs₅ => ?_)
    replace hs₅ : Heap.SameBut e h₄ h₅ := hs₅
    replace he₅ : IsEnum h₅ e it ((i : Int) + 1) x := he₅
    show wpAny _ _ (Builtin.SmallTypes.ownedTupleHandOut (.ref e) (.ref hp.objs.size) >>= _) _ _ ⟨h₅, g, d, tk + 1, os⟩
    refine wpAny_bind ?_
    · unfold Builtin.SmallTypes.ownedTupleHandOut
      refine wpAny_bind (wpAny_setField_rec he₅ (by simp) fun h₆ he₆ hs₆ => ?_)
      replace hs₆ : Heap.SameBut e h₅ h₆ := hs₆
      replace he₆ : IsEnumOut h₆ e it ((i : Int) + 1) x hp.objs.size := he₆
      refine wpAny_setField_rec he₆ (by simp) fun h₇ he₇ hs₇ => ?_
      replace hs₇ : Heap.SameBut e h₆ h₇ := hs₇
      replace he₇ : IsEnumOut h₇ e it ((i : Int) + 1) x hp.objs.size := he₇
      refine wpAny_bind (wpAny_letGo (wpAny_pure ⟨_, rfl, wpAny_pure (hQ h₇ he₇ ?_ ?_ ?_ ?_)⟩))
      · exact ((hit₄.extBut hs₅.extBut (Ne.symm hne)).extBut hs₆.extBut (Ne.symm hne)).extBut hs₇.extBut (Ne.symm hne)
      · exact hs₇.extBut _ _ (Nat.ne_of_gt hel) (hs₆.extBut _ _ (Nat.ne_of_gt hel) (hs₅.extBut _ _ (Nat.ne_of_gt hel) ht₄))
      · rw [hs₇.1, hs₆.1, hs₅.1, hz₄]
      · exact fun b o hbe hbi hb => hs₇.extBut b o hbe (hs₆.extBut b o hbe (hs₅.extBut b o hbe (hk₄ b o hbe hbi hb)))
theorem pyNext_enumTup_end {e it l : Addr} {i : Nat} {items : Array Value} {old : Value} {Q : Option Value → Shared → Prop} (hh : A.handled = none)
    (he : IsEnum s.heap e it i old) (hit : s.heap.IsTupleIter it l i) (hl : s.heap.IsTuple l items) (hx : items[i]? = none)
    (hQ : ∀ h', Heap.ExtBut it s.heap h' → Q none { s with heap := h' }) : wpAny (model prog w) A (pyNext (.ref e)) Q E s := by
  have hT : s.TypeIs (.ref e) "enumerate" := ⟨_, he, rfl⟩
  unfold pyNext
  refine wpAny_bind (wpAny_attempt (wpAny_callSpecial?_slot (name := Str.ofString "__next__") hT F.slot_enumerate_next
    (wpAny_call_entry F.slot_enumerate_next hT F.entry_enumerate_next ?_ (F.args_enumerate_next_1 _))))
  show wpAny _ _ (field (.ref e) 2 >>= _) _ _ _
  refine wpAny_bind (wpAny_field he rfl (x := .ref it) rfl ?_)
  refine wpAny_bind (nextOf_tup_end hh hit hl hx fun h' x he' hx' => ?_)
  obtain ⟨o, ho, hc⟩ := hx'
  refine wpAny_bind (wpAny_isInstance (T := "StopIteration") (b := true) ⟨o, ho, hc⟩ isSubtype_stop ?_)
  exact wpAny_pure (hQ _ he')
end
section
variable {C : Cx} {m : Loc} {led : Led} {env : Env} {e it l : Addr} {vs : List Value} {i : Nat} {old x : Value}
abbrev enO (h : Value) (it : Addr) (i : Int) (old : Value) : Obj := { cls := .type "enumerate", data := .fields #[h, .bool false, .ref it, rawInt i, .none, old] }
theorem r_enumTup {Q : Value → Loc → Led → Prop} (hl : Has C led l (tupO vs)) (h : ∀ e it, e ≠ it → Q (.ref e) m ((e, enO .none it 0 .none) :: (it, tiO l 0) :: led)) : T C m led (call (.type "enumerate") [.ref l]) Q := fun s P => by
  have P2 := (P.alloc (tiO l 0)).alloc (enO .none s.heap.objs.size 0 .none)
  rw [show ({ s with heap := s.heap.push (tiO l 0) } : Shared).heap.objs.size = s.heap.objs.size + 1 from Heap.size_push ..] at P2
  exact call_enumTup (hl.get P) ⟨m, _, P2, h _ _ (Nat.succ_ne_self _)⟩
theorem r_iterEnum {i : Int} {Q : Value → Loc → Led → Prop} (hl : Has C led e (enO .none it i old)) (h : Q (.ref e) m led) : T C m led (pyIter (.ref e)) Q := fun s P => wpAny_pyIter_enum (hl.get P) ⟨m, _, P, h⟩
theorem Pt.general {W : Wd} {β : Addr → Option Obj} {L : Addr} {m : Loc} {led led' : Led} {s : Shared} {h' : Heap} (P : Pt W β L m led s) (hk : ∀ b x, b ∉ led.map (·.1) → s.heap.get? b = some x → h'.get? b = some x)
    (ho : ∀ p ∈ led', h'.get? p.1 = some p.2 ∧ p.1 ≠ L ∧ β p.1 = none) (hn : (led'.map (·.1)).Nodup) (t : Nat) : Pt W β L m led' { s with heap := h', toks := t } := by
  obtain ⟨oL, es, ep, hL, r⟩ := P.ns
  exact ⟨P.base, P.keeps fun b x y q e => hk b x (P.notLed q) e, P.off, ⟨oL, es, ep, hk _ _ P.notLedL hL, r⟩, ho, hn, P.gens, P.os⟩
theorem Pt.fresh {W : Wd} {β : Addr → Option Obj} {L : Addr} {m : Loc} {led : Led} {s : Shared} (P : Pt W β L m led s) : s.heap.objs.size ≠ L ∧ β s.heap.objs.size = none ∧ s.heap.objs.size ∉ led.map (·.1) := by
  refine ⟨Nat.ne_of_gt P.ns.lt, ?_, fun hm => ?_⟩
  · cases hq : β s.heap.objs.size with
    | none => rfl
    | some o' => exact absurd (P.ltβ hq) (Nat.lt_irrefl _)
  · obtain ⟨p, hp, e⟩ := List.mem_map.mp hm
    exact absurd (Heap.lt_size (P.own p hp).1) (by rw [e]; exact Nat.lt_irrefl _)
theorem r_nextEnum {oi : Obj} {Q : Option Value → Loc → Led → Prop} (hi : TiO l i oi) (hl : Has C led l (tupO vs)) (hx : vs[i]? = some x) (hne : e ≠ it)
    (h : ∀ a t oi', TiO l (i + 1) oi' → Q (some (.ref a)) m ((a, tupO [.int i t, x]) :: (e, enO (rawInt a) it ((i : Int) + 1) x) :: (it, oi') :: led)) :
    T C m ((e, enO .none it i old) :: (it, oi) :: led) (pyNext (.ref e)) Q := fun s P => by
  have hit : s.heap.get? it = some oi := P.get (by simp)
  refine pyNext_enumTup_item (items := vs.toArray) (P.get List.mem_cons_self) ⟨_, hit, hi⟩ ⟨_, (Has.tail (Has.tail hl)).get P, rfl, _, rfl⟩ (by simpa using hx) hne fun h' he hti htup hsz hk => ?_
  obtain ⟨oi', ho', hi'⟩ := hti
  obtain ⟨f1, f2, f3⟩ := P.fresh
  have n1 := P.nd
  simp only [List.map_cons, List.nodup_cons, List.mem_cons, not_or] at n1 f3
  refine ⟨m, _, P.general (led' := (s.heap.objs.size, tupO [.int i s.toks, x]) :: (e, enO (rawInt s.heap.objs.size) it ((i : Int) + 1) x) :: (it, oi') :: led) (fun b y hb q => ?_) (fun p hp => ?_) ?_ _, h _ _ _ hi'⟩
  · simp only [List.map_cons, List.mem_cons, not_or] at hb
    exact hk b y hb.1 hb.2.1 q
  · simp only [List.mem_cons] at hp
    rcases hp with rfl | rfl | rfl | hp
    · exact ⟨htup, f1, f2⟩
    · exact ⟨he, (P.own (e, enO .none it i old) (by simp)).2⟩
    · exact ⟨ho', (P.own (it, oi) (by simp)).2⟩
    · have R := P.own p (by simp [hp])
      have a1 : p.1 ≠ e := fun q => n1.1.2 (by rw [← q]; exact List.mem_map_of_mem hp)
      have a2 : p.1 ≠ it := fun q => n1.2.1 (by rw [← q]; exact List.mem_map_of_mem hp)
      exact ⟨hk _ _ a1 a2 R.1, R.2⟩
  · simp only [List.map_cons, List.nodup_cons, List.mem_cons, not_or]
    exact ⟨f3, n1⟩
theorem r_nextEnumEnd {oi : Obj} {Q : Option Value → Loc → Led → Prop} (hh : C.A.handled = none) (hi : TiO l i oi) (hl : Has C led l (tupO vs)) (hx : vs[i]? = none) (h : Q none m led) :
    T C m ((e, enO .none it i old) :: (it, oi) :: led) (pyNext (.ref e)) Q := fun s P => by
  have hit : s.heap.get? it = some oi := P.get (by simp)
  refine pyNext_enumTup_end (items := vs.toArray) hh (P.get List.mem_cons_self) ⟨_, hit, hi⟩ ⟨_, (Has.tail (Has.tail hl)).get P, rfl, _, rfl⟩ (by simpa using hx) fun h' hk => ?_
  exact ⟨m, _, (P.drop (List.sublist_cons_self _ _)).gone (fun b y hb q => hk b y hb q) _, h⟩
theorem r_letEnum {a : Addr} {i : Int} {elts : List Expr} {x1 : Nat} {pos : Pos} {pre post : Led} {Q : Unit → Loc → Led → Prop} (h : Q () m (pre ++ (e, enO .none it i x) :: post)) :
    T C m (pre ++ (e, enO (rawInt a) it i x) :: post) (letOwnedTupleGo (.Tuple elts x1 pos) (.ref e) (.ref a)) Q := fun s P =>
  wpAny_letOwnedTupleGo_enum (P.get (by simp)) fun h' hit hsb => ⟨m, _, P.movedAt hit (fun b x hb e => hsb.extBut b x hb e) _, h⟩
end
section
variable {C : Cx} {m : Loc} {led : Led} {env : Env} {K : Type} [DecidableEq K] {knd : PySem.KeyKind PG C.W.w K} {d : Addr} {o : Obj} {kvs : List (K × Value)}
theorem r_nextItemsEnd {it : Addr} {i n ep : Nat} {ok ov : Value} {Q : Option Value → Loc → Led → Prop} (hh : C.A.handled = none) (hl : Has C led d o) (hd : o.IsDictOf knd kvs) (hep : ∃ es, o.data = .dict es ep) (hn : n = kvs.length) (hx : kvs[i]? = none)
    (h : Q none m led) : T C m ((it, iiO .none d i n ep ok ov) :: led) (pyNext (.ref it)) Q := fun s P => by
  obtain ⟨es, ep', h1, h2, h3⟩ := id hd
  obtain ⟨es', he⟩ := hep
  obtain rfl : ep' = ep := by rw [h2] at he; injection he
  subst hn
  exact wpAny_pyNext_items_end (knd := knd) hh (P.get List.mem_cons_self) ⟨o, es, (Has.tail hl).get P, h1, h2, h3⟩ hx fun h' hk => ⟨m, _, P.gone (fun b y hb q => hk b y hb q) _, h⟩
end
section
variable {prog : Program} {w : World} {A : Around} {E : Value → Shared → Prop} {s : Shared} {K : Type} [DecidableEq K] {knd : PySem.KeyKind prog w K} {d : Addr} {kvs : List (K × Value)} {ep : Nat}
theorem hint_dict {Q : Bool → Shared → Prop} (hm : s.heap.DictOf knd d kvs) (h : Q false s) : wpAny (model prog w) A (Builtin.List.listLengthHint (.ref d)) Q E s := by
  unfold Builtin.List.listLengthHint
  refine wpAny_bind (wpAny_specialOf hm.typeIs F.slot_dict_len.lookup ?_)
  generalize hid : ("dict.__len__" : String) = id0
  wp_delta
  rw [show splitId id0 = some ("dict", "__len__") from by subst hid; decide +kernel]
  subst hid
  refine wpAny_bind (wpAny_isInstance (T := "dict") (b := true) hm.typeIs (by rw [isSubtype_type]; kernel_rfl) ?_)
  refine wpAny_ite_split (fun hab => absurd hab (by decide)) (fun _ => ?_)
  refine wpAny_ite_split (fun _ => ?_) (fun hab => absurd (by decide +kernel) hab)
  exact wpAny_bind (wpAny_typeOf hm.typeIs (wpAny_pure h))
theorem extend_dict {R : Result → Shared → Prop} (hh : A.handled = none) (hd : (d == sysModules) = false) (hm : s.heap.DictAt knd d kvs ep) (hlen : kvs.length ≤ 2 ^ 24) (S : Addr) (hSd : S ≠ d) (res : Value) (c₀ : Nat) (hS : s.heap.get? S = some { cls := .type "list", data := .seq #[] c₀ })
    (hR : ∀ h' tk acc' c', (∀ b o, b ≠ S → s.heap.get? b = some o → h'.get? b = some o) → h'.get? S = some { cls := .type "list", dict := none, data := .seq acc' c', slots := #[] } →
      ItemsOf (fun i v => ∃ k x, kvs[i]? = some (k, x) ∧ knd.is k v = true) acc' kvs.length → R (.ok (.ret res)) { s with heap := h', toks := tk }) :
    wpAny (model prog w) A.in1 (Builtin.List.listExtendWith (.ref S) (.ref d) res)
      (fun fin s' => match fin with | .done f => R (.ok f) s' | .again c' => c'.quiet = true ∧ codeAny (model prog w) A c' R s') (fun e s' => R (.error e) s') s := by
  have hSlt : S < s.heap.objs.size := Heap.lt_size hS
  have hSI : S ≠ s.heap.objs.size := Nat.ne_of_lt hSlt
  have hdI : d ≠ s.heap.objs.size := Nat.ne_of_lt hm.lt_size
  have hSf : S ∉ [s.heap.objs.size, d] := fun hm => by
    rcases List.mem_cons.mp hm with e | e
    · exact hSI e
    · exact hSd (List.mem_singleton.mp e)
  have W := (Walks.dictKeys (prog := prog) (w := w) (A := A.in1) (knd := knd) hh s.heap.objs.size d hdI kvs ep).toS
  have key : ∀ (h : Heap) (c₁ tk : Nat), h.IsKeyIter s.heap.objs.size d 0 kvs.length ep → (∀ b o, b ≠ S → s.heap.get? b = some o → h.get? b = some o) →
      h.get? S = some { cls := .type "list", data := .seq #[] c₁ } → codeAny (model prog w) A (.builtin "list.extend.loop" ⟨[.ref S, .ref s.heap.objs.size, res], []⟩) R { s with heap := h, toks := tk } := by
    intro h c₁ tk hit hk hS₁
    have hm₁ : h.DictAt knd d kvs ep := hm.at' fun o e => hk d o (Ne.symm hSd) e
    refine codeAny_extend_loopS W (by rw [sizeLine_eq]; omega) S hSf res kvs.length 0 _ #[] c₁ rfl (Nat.zero_le _) ⟨hit, hm₁⟩ hS₁ (ItemsOf.nil _) fun s' acc' c' hm hS' hacc => ?_
    rw [Moved.eq_with hm]
    refine hR s'.heap s'.toks acc' c' (fun b o hb e => hm.heap b o (fun hmem => ?_) (hk b o hb e)) hS' hacc
    rcases List.mem_cons.mp hmem with e' | hmem
    · exact hb e'
    · exact absurd (Heap.lt_size e) (by rw [List.mem_singleton.mp hmem]; exact Nat.lt_irrefl _)
  unfold Builtin.List.listExtendWith
  refine wpAny_bind (wpAny_typeOf (T := "dict") hm.dictOf.typeIs ?_)
  have h1 : Builtin.List.listSameRef (.ref S) (.ref d) = false := by simp [Builtin.List.listSameRef, hSd]
  have h2 : (Value.type "dict" == Value.type "list") = false := by decide
  have h3 : (Value.type "dict" == Value.type "tuple") = false := by decide
  simp only [h1, h2, h3, Bool.or_false, Bool.false_eq_true, if_false]
  refine wpAny_bind (wpAny_pyIter_dict hd hm ?_)
  refine wpAny_bind (wpAny_holding (hint_dict (hm.dictOf.push _) ?_))
  have hit₁ : (s.heap.push { cls := .type "dict_keyiterator", data := .fields #[.ref d, .int 0 0, .int kvs.length 0, .int ep 0] }).IsKeyIter s.heap.objs.size d 0 kvs.length ep := ⟨_, Heap.get?_push_size _ rfl, rfl, rfl⟩
  have hS₁ := Heap.get?_push_of_some { cls := .type "dict_keyiterator", data := .fields #[.ref d, .int 0 0, .int kvs.length 0, .int ep 0] } hS
  refine wpAny_ite_split (fun _ => ?_) (fun _ => wpAny_pure ⟨plainId_quiet F.plain_extend_loop _, key _ c₀ s.toks hit₁ (fun b o _ e => Heap.get?_push_of_some _ e) hS₁⟩)
  refine wpAny_bind (wpAny_rule ?_)
  refine wpAny_bind ?_
  show wpAny _ _ (updateSeq S (·.push .none) >>= fun _ => updateSeq S (·.pop)) _ _ _
  refine wpAny_bind (wpAny_updateSeq hS₁ rfl ?_)
  have hS₂ := Heap.get?_update_self (Obj.mapSeq (·.push Value.none)) hS₁ rfl
  refine wpAny_updateSeq (hz := by seq_fits) hS₂ rfl ?_
  have hS₃ := Heap.get?_update_self (Obj.mapSeq (·.pop)) hS₂ rfl
  refine wpAny_pure ⟨plainId_quiet F.plain_extend_loop _, key _ _ s.toks ?_ (fun b o hb e => ?_) hS₃⟩
  · exact hit₁.at fun o e => (Heap.get?_update_other _ _ hSI).trans ((Heap.get?_update_other _ _ hSI).trans e)
  · exact (Heap.get?_update_other _ _ (Ne.symm hb)).trans ((Heap.get?_update_other _ _ (Ne.symm hb)).trans (Heap.get?_push_of_some _ e))
theorem call_list_dict {Q : Value → Shared → Prop} (hh : A.handled = none) (hd : (d == sysModules) = false) (hm : s.heap.DictAt knd d kvs ep) (hlen : kvs.length ≤ 2 ^ 24)
    (hQ : ∀ h' tk acc' c', (∀ b o, s.heap.get? b = some o → h'.get? b = some o) →
      h'.get? s.heap.objs.size = some { cls := .type "list", dict := none, data := .seq acc' c', slots := #[] } → ItemsOf (fun i v => ∃ k x, kvs[i]? = some (k, x) ∧ knd.is k v = true) acc' kvs.length → Q (.ref s.heap.objs.size) { s with heap := h', toks := tk }) :
    wpAny (model prog w) A (call (.type "list") [.ref d]) Q E s := by
  refine callType_codes (Q₁ := fun obj s₁ => obj = .ref s.heap.objs.size ∧ s₁ = { s with heap := s.heap.push { cls := .type "list", data := .seq #[] } }) F.called_list (F.typeCall_list_1 _) F.entry_list_init
    (code_list_new _ ⟨rfl, rfl⟩) fun obj s₁ h₁ => ?_
  obtain ⟨rfl, rfl⟩ := h₁
  have hS : (s.heap.push { cls := .type "list", data := .seq #[] }).get? s.heap.objs.size = some { cls := .type "list", data := .seq #[] } := Heap.get?_push_size _ rfl
  refine ⟨⟨_, hS, rfl⟩, F.args_list_init_2 _ _, ?_⟩
  show wpAny _ _ (do let old ← Builtin.List.listItems (.ref s.heap.objs.size); Builtin.List.listUpdate (.ref s.heap.objs.size) (fun _ => #[]); letGo old.toList.reverse; Builtin.List.listExtendWith (.ref s.heap.objs.size) (.ref d) .none) _ _ _
  refine wpAny_bind ?_
  unfold Builtin.List.listItems
  refine wpAny_bind (wpAny_seqItems hS rfl (wpAny_pure ?_))
  show wpAny _ _ (updateSeq s.heap.objs.size (fun _ => #[]) >>= fun _ => letGo (#[] : Array Value).toList.reverse >>= fun _ => Builtin.List.listExtendWith (.ref s.heap.objs.size) (.ref d) .none) _ _ _
  refine wpAny_bind (wpAny_updateSeq hS rfl ?_)
  have hS₂ := Heap.get?_update_self (Obj.mapSeq (fun _ => (#[] : Array Value))) hS rfl
  have hdS : s.heap.objs.size ≠ d := Nat.ne_of_gt hm.lt_size
  have oth : ∀ b o, b ≠ s.heap.objs.size → s.heap.get? b = some o → ((s.heap.push { cls := .type "list", data := .seq #[] }).update s.heap.objs.size (Obj.mapSeq (fun _ => (#[] : Array Value)))).get? b = some o :=
    fun b o hb e => (Heap.get?_update_other _ _ (Ne.symm hb)).trans (Heap.get?_push_of_some _ e)
  refine wpAny_bind (wpAny_letGo ?_)
  refine extend_dict (A := A.in1) hh hd (hm.at' fun o e => oth d o (Ne.symm hdS) e) hlen _ hdS .none _ hS₂ fun h' tk acc' c' hk hS' hacc => ?_
  exact ⟨rfl, hQ h' tk acc' c' (fun b o e => hk b o (Nat.ne_of_lt (Heap.lt_size e)) (oth b o (Nat.ne_of_lt (Heap.lt_size e)) e)) hS' hacc⟩
end
section
variable {C : Cx} {m : Loc} {led : Led} {env : Env} {K : Type} [DecidableEq K] {knd : PySem.KeyKind PG C.W.w K} {d : Addr} {o : Obj} {kvs : List (K × Value)}
theorem r_listDict {Q : Value → Loc → Led → Prop} (hh : C.A.handled = none) (hl : Has C led d o) (hd : o.IsDictOf knd kvs) (hs : (d == sysModules) = false) (hz : kvs.length ≤ 2 ^ 24)
    (h : ∀ (a : Addr) (vs : List Value) (n : Nat), vs.length = kvs.length → (∀ (i : Nat) v, vs[i]? = some v → ∃ k x, kvs[i]? = some (k, x) ∧ knd.is k v = true) → Q (.ref a) m ((a, listO vs n) :: led)) : T C m led (call (.type "list") [.ref d]) Q := fun s P => by
  obtain ⟨es, ep, h1, h2, h3⟩ := id hd
  refine call_list_dict (knd := knd) hh hs ⟨o, es, hl.get P, h1, h2, h3⟩ hz fun h' tk acc' c' hk hS hacc => ?_
  refine ⟨m, _, P.newAt (o := listO acc'.toList c') hk hS tk, h _ _ _ ?_ ?_⟩
  · exact hacc.1
  · intro i v hv
    exact hacc.2 i v (by simpa using hv)
end
end
section
abbrev dictO0 : Obj := { cls := .type "dict", data := .dict #[] }
section
variable {C : Cx} {m : Loc} {led : Led} {env : Env}
theorem r_compDict {kx vx iter : Expr} {x : Str} {px : Pos} {ifs : List Expr} {scope : Scope} {cl : List (Str × Addr)} {pos pos' : Pos} {use : Option (Value → Sem Unit)} {Q : Value → Loc → Led → Prop}
    (hclos : closureFor scope env = pure cl) (hkind : scope.kind = .function) (hnames : ∀ y ∈ scope.names, y.2 = .local → scope.names.lookup y.1 = some .local)
    (h : T C m led (eval iter env) fun xv m1 l1 => T C m1 l1 (pyIter xv) fun it m2 l2 => ∃ I, it = .ref I ∧ ∀ D L' β' E', (D == sysModules) = false → Up C.β β' →
      ∃ (J : Nat → Loc → Led → Prop) (n : Nat), J n (fun _ => none) (cellLed (L' + 1) scope.names ((D, dictO0) :: l2)) ∧
        (∀ n m l, J n m l → T ⟨C.W, C.A, E', β', L'⟩ m l (pyIter (.ref I)) fun it' m' l' => it' = .ref I ∧ J n m' l') ∧
        (∀ n m l, J n m l → T ⟨C.W, C.A, E', β', L'⟩ m l (pyNext (.ref I)) fun r m1 l1 => match r with
          | none => ∃ l', List.Sublist l' l1 ∧ CompEnd C use D L' Q m2 l'
          | some v => T ⟨C.W, C.A, E', β', L'⟩ m1 l1 (storeName (cenvOf scope cl L' env) x v) fun _ m2 l2 => T ⟨C.W, C.A, E', β', L'⟩ m2 l2 (testsT ifs (cenvOf scope cl L' env)) fun ok m3 l3 =>
              if ok = true then T ⟨C.W, C.A, E', β', L'⟩ m3 l3 (eval kx (cenvOf scope cl L' env)) fun y m4 l4 => T ⟨C.W, C.A, E', β', L'⟩ m4 l4 (eval vx (cenvOf scope cl L' env)) fun z m5 l5 => T ⟨C.W, C.A, E', β', L'⟩ m5 l5 (dictSet D y z) fun _ m6 l6 => ∃ l' k, List.Sublist l' l6 ∧ k < n ∧ J k m6 l'
              else ∃ l' k, List.Sublist l' l3 ∧ k < n ∧ J k m3 l'))
    (hs : ∀ x, foldedSetIterable iter env x = pure x := by intro _; rfl) :
    T C m led (comprehension (.DictComp kx vx [⟨.Name x px, iter, ifs, 0⟩] scope pos) scope env pos' newDict false (eval iter env) use) Q := fun s P => by
  refine wpAny_comprehension_free rfl hs hclos hkind hnames (h.run P fun xv s1 m1 l1 P1 h1 => h1.run P1 fun it s2 m2 l2 P2 ⟨I, e, h2⟩ => ?_)
  subst e
  refine wpAny_newObj_type (wpAny_newCompEnv ?_)
  have P3 := P2.alloc dictO0
  generalize hs3 : ({ s2 with heap := s2.heap.push dictO0 } : Shared) = s3 at P3 ⊢
  have hD := P2.lowMods
  generalize s2.heap.objs.size = D at P3 hD ⊢
  have hnone : s3.heap.get? s3.heap.objs.size = none := by
    cases q : s3.heap.get? s3.heap.objs.size with
    | none => rfl
    | some o => exact absurd (Heap.lt_size q) (Nat.lt_irrefl _)
  have P4 := (P3.into (L' := s3.heap.objs.size) (m' := fun _ => none) (s' := { s3 with heap := s3.heap.push { cls := .type "dict", data := .dict #[] } }) hnone (Heap.Ns.new s3.heap (.type "dict")) (fun b o e => Heap.get?_push_of_some _ e) rfl rfl).cells scope.names
  have hsz : ({ s3 with heap := s3.heap.push { cls := .type "dict", data := .dict #[] } } : Shared).heap.objs.size = s3.heap.objs.size + 1 := Heap.size_push ..
  rw [hsz] at P4
  have up : Up C.β (hideB ((D, dictO0) :: l2) s3.heap) := P3.up
  generalize hL' : s3.heap.objs.size = L' at P4 ⊢
  let E' : Value → Shared → Prop := notedBy (Mo C.W) C.A (cenvOf scope cl L' env) fun e s' => compPost (Mo C.W) C.A C.E use (fun v s => ∃ m' led', Pt C.W C.β C.L m' led' s ∧ Q v m' led') (.ref D) L' (.error e) s'
  obtain ⟨J, n, hJ, hself, turn⟩ := h2 D L' _ E' hD up
  have loop : ∀ s' m' l' n, Pt C.W (hideB ((D, dictO0) :: l2) s3.heap) L' m' l' s' → J n m' l' →
      codeAny (Mo C.W) C.A (.compLoop (.DictComp kx vx [⟨.Name x px, iter, ifs, 0⟩] scope pos) 0 (.ref I) (.ref D) (cenvOf scope cl L' env)) (compPost (Mo C.W) C.A C.E use (fun v s => ∃ m' led', Pt C.W C.β C.L m' led' s ∧ Q v m' led') (.ref D) L') s' := by
    intro s' m' l' n P' hj
    refine codeAny_compLoop_testsD (fun n s' => ∃ m' l', Pt C.W (hideB ((D, dictO0) :: l2) s3.heap) L' m' l' s' ∧ J n m' l') (fun n s' ⟨m', l', P', hj⟩ => ?_) n ⟨m', l', P', hj⟩
    refine (turn n m' l' hj).run P' fun r s4 m4 l4 P4 h4 => ?_
    cases r with
    | none =>
      obtain ⟨l5, hs5, hq⟩ := h4
      exact compEnd_post P3 P4 hs5 hq
    | some v =>
      refine wpAny_assign_Name (h4.run P4 fun _ s5 m5 l5 P5 h5 => h5.run P5 fun ok s6 m6 l6 P6 h6 => ?_)
      cases ok with
      | false =>
        simp only [Bool.false_eq_true, if_false] at h6 ⊢
        obtain ⟨l7, k, hs7, hk, hj7⟩ := h6
        exact ⟨k, hk, m6, l7, P6.drop hs7, hj7⟩
      | true =>
        simp only [if_true] at h6 ⊢
        refine h6.run P6 fun y s7 m7 l7 P7 h7 => h7.run P7 fun z sz mz lz Pz hz => hz.run Pz fun _ s8 m8 l8 P8 h8 => ?_
        obtain ⟨l9, k, hs9, hk, hj9⟩ := h8
        exact ⟨k, hk, m8, l9, P8.drop hs9, hj9⟩
  have P4' : Pt C.W (hideB ((D, dictO0) :: l2) s3.heap) L' (fun _ => none) (cellLed (L' + 1) scope.names ((D, dictO0) :: l2)) { s3 with heap := pushCells (s3.heap.push { cls := .type "dict", data := .dict #[] }) scope.names } := P4
  refine codeAny_compStart_dict (loop _ _ _ n P4' hJ) ?_
  refine (hself n _ _ hJ).run P4' fun it' s5 m5 l5 P5 ⟨e, hj⟩ => ?_
  subst e
  exact loop s5 m5 l5 n P5 hj
theorem r_ListComp {elt iter : Expr} {x : Str} {px : Pos} {ifs : List Expr} {scope : Scope} {pos : Pos} {Q : Value → Loc → Led → Prop}
    (h : T C m led (comprehension (.ListComp elt [⟨.Name x px, iter, ifs, 0⟩] scope pos) scope env (firstIterPos [⟨.Name x px, iter, ifs, 0⟩] pos) (newList []) false (eval iter env) none) Q) : T C m led (eval (.ListComp elt [⟨.Name x px, iter, ifs, 0⟩] scope pos) env) Q := fun s P => by
  rw [eval_ListComp]; exact h s P
theorem r_DictComp {kx vx iter : Expr} {x : Str} {px : Pos} {ifs : List Expr} {scope : Scope} {pos : Pos} {Q : Value → Loc → Led → Prop}
    (h : T C m led (comprehension (.DictComp kx vx [⟨.Name x px, iter, ifs, 0⟩] scope pos) scope env (firstIterPos [⟨.Name x px, iter, ifs, 0⟩] pos) newDict false (eval iter env) none) Q) : T C m led (eval (.DictComp kx vx [⟨.Name x px, iter, ifs, 0⟩] scope pos) env) Q := fun s P => by
  rw [arm_eval_DictComp]; exact h s P
theorem r_AssignComp {elt iter : Expr} {x y : Str} {px py : Pos} {ifs : List Expr} {scope : Scope} {pos spos : Pos} {Q : Flow → Loc → Led → Prop}
    (h : T C m led (comprehension (.ListComp elt [⟨.Name x px, iter, ifs, 0⟩] scope pos) scope env (firstIterPos [⟨.Name x px, iter, ifs, 0⟩] pos) (newList []) false (eval iter env) (some (assign (.Name y py) env))) fun _ => Q .next)
    (hsw : swapsWith (.ListComp elt [⟨.Name x px, iter, ifs, 0⟩] scope pos) (some (.Name y py)) spos.line env = pure true := by rfl) : T C m led (exec (.Assign [.Name y py] (.ListComp elt [⟨.Name x px, iter, ifs, 0⟩] scope pos) spos) env) Q := fun s P => by
  rw [exec_Assign_Name_used _ _ _ _ hsw]
  refine wpAny_bind (wpAny_standAt (wpAny_bind ?_))
  show wpAny _ C.A (do let _ ← comprehension (.ListComp elt [⟨.Name x px, iter, ifs, 0⟩] scope pos) scope env _ (newList []) false (eval iter env) (some (assign (.Name y py) env))) _ _ s
  exact wpAny_bind (h.run P fun _ s' m' l' P' hq => wpAny_pure (wpAny_pure ⟨m', l', P', hq⟩))
end
end
section
section
variable {W : Wd} {A : Around} {E : Value → Shared → Prop} {β : Addr → Option Obj} {led : Led} {env : Env}
def bindM (binds : List (Str × Value)) (m : Loc) : Loc := binds.foldl (fun m p => upd m p.1 p.2) m
theorem bindAll (f : Str × Value → PUnit → Sem (ForInStep PUnit)) (hf : ∀ n v u, f (n, v) u = (do storeName env n v; pure (.yield ⟨⟩))) (hk : env.scope.kind = .function) :
    ∀ (binds : List (Str × Value)) (m : Loc) (s : Shared) (Q : PUnit → Shared → Prop), Pt W β env.locals m led s → (∀ x ∈ binds, env.kindOf x.1 = some .local) →
      (∀ s', Pt W β env.locals (bindM binds m) led s' → (∀ b o, b ≠ env.locals → s.heap.get? b = some o → s'.heap.get? b = some o) → Q ⟨⟩ s') → wpAny (Mo W) A (forIn binds ⟨⟩ f) Q E s
  | [], m, s, Q, P, _, h => by rw [List.forIn_nil]; exact wpAny_pure (h s P fun _ _ _ e => e)
  | (n, v) :: r, m, s, Q, P, hkind, h => by
    rw [List.forIn_cons, hf]
    refine wpAny_bind (wpAny_bind (wpAny_storeName_local (hkind (n, v) List.mem_cons_self) P.ns (fun h' hn hs => ?_) (by rw [hk]; rfl)))
    refine wpAny_pure (bindAll f hf hk r _ _ Q (P.setNs hn hs _) (fun x hx => hkind x (List.mem_cons_of_mem _ hx)) fun s' P' hk' => h s' P' fun b o hb e => hk' b o hb (hs.extBut b o hb e))
end
section
variable {C : Cx} {m : Loc} {led : Led} {env : Env}
theorem r_callDefX {Q : Value → Loc → Led → Prop} {name qual : Str} {params : Arguments} {body : List Stmt} {scope : Scope} {dV kV doc pm cdv ct oc : Value} {an od : Option Addr} {osl : Array (Option Value)} {f : Addr} {args : List Value}
    (hroom : C.A.depth < recursionLimit)
    (ho : (hd.heap_1 C.W.w.params).lookup f = some ⟨oc, od, .func (fnOf name qual params body scope dV kV doc pm an cdv ct), osl⟩) (hcd : codeIn (hd.heap_1 C.W.w.params) cdv qual = true)
    (hco : scope.isCoroutine = false) (hgen : scope.isGenerator = false) (hk : scope.kind = .function)
    (h : T ⟨C.W, C.A.in1, C.E, C.β, C.L⟩ m led (bindArgs (fnOf name qual params body scope dV kV doc pm an cdv ct) ⟨args, []⟩) fun binds m1 l1 => (∀ y ∈ binds, scope.names.lookup y.1 = some .local) ∧
      ∀ β' L', Up C.β β' → (∀ m'' led'' s'', Pt C.W β' L' m'' led'' s'' → Pt C.W C.β C.L m1 led'' s'') →
        T ⟨C.W, C.A.deeper (envOfC qual scope L' f cdv), fun e s'' => wpAny (Mo C.W) (C.A.deeper (envOfC qual scope L' f cdv)) (leaving (envOfC qual scope L' f cdv) e) (fun _ s3 => C.E e s3) (fun e' s3 => C.E e' s3) s'', β', L'⟩
          (bindM binds fun _ => none) (cellLed (L' + 1) scope.names l1) (execs body (envOfC qual scope L' f cdv)) fun fl _ led' => ∃ l', List.Sublist l' led' ∧ Q (retv fl) m1 l') : T C m led (call (.ref f) args) Q := fun s P => by
  refine wpAny_call (codeAny_call_function (fd := fnOf name qual params body scope dV kV doc pm an cdv ct) (body := body) hroom (P.X _ _ ho) rfl hco hgen rfl (codeRec_of P.X hcd) ?_)
  refine h.run P fun binds s1 m1 l1 P1 ⟨hloc, h1⟩ => ?_
  simp only [newFunctionEnv, Option.isSome_none, Bool.false_eq_true, if_false]
  refine wpAny_bind (wpAny_alloc ?_)
  refine wpAny_bind (wpAny_layCells _ (fun name kind cells => by cases hkc : kind == NameKind.cell <;> simp [hkc]) _ _ _ _ ?_)
  have hnone : s1.heap.get? s1.heap.objs.size = none := by
    cases q : s1.heap.get? s1.heap.objs.size with
    | none => rfl
    | some o => exact absurd (Heap.lt_size q) (Nat.lt_irrefl _)
  have P2 := (P1.into (L' := s1.heap.objs.size) (m' := fun _ => none) (s' := { s1 with heap := s1.heap.push { cls := .type "frame", data := .dict #[] } }) hnone (Heap.Ns.new s1.heap (.type "frame")) (fun b o e => Heap.get?_push_of_some _ e) rfl rfl).cells scope.names
  have hsz : ({ s1 with heap := s1.heap.push { cls := .type "frame", data := .dict #[] } } : Shared).heap.objs.size = s1.heap.objs.size + 1 := Heap.size_push ..
  rw [hsz] at P2 ⊢
  have up : Up C.β (hideB l1 s1.heap) := P1.up
  refine wpAny_bind (bindAll (env := envOfC qual scope s1.heap.objs.size f cdv) _ (fun _ _ _ => rfl) hk binds (fun _ => none) _ _ P2 (fun x hx => hloc x hx) fun s' P' _ => ?_)
  refine wpAny_pure ⟨P'.nolimit, codeAny_func ?_⟩
  exact (h1 (hideB l1 s1.heap) s1.heap.objs.size up (fun m'' led'' s'' P'' => P1.back P'')).run P' fun fl s'' m'' led'' P'' ⟨l', hs, hq⟩ => ⟨m1, l', (P1.back P'').drop hs, hq⟩
theorem r_callDefC {Q : Value → Loc → Led → Prop} {name qual : Str} {params : Arguments} {body : List Stmt} {scope : Scope} {dV kV doc pm cdv ct oc : Value} {an od : Option Addr} {osl : Array (Option Value)} {f : Addr} {args : List Value} {binds : List (Str × Value)} {k : Nat}
    (R : Room C (k + 1))
    (ho : (hd.heap_1 C.W.w.params).lookup f = some ⟨oc, od, .func (fnOf name qual params body scope dV kV doc pm an cdv ct), osl⟩) (hcd : codeIn (hd.heap_1 C.W.w.params) cdv qual = true)
    (hbind : bindArgs (fnOf name qual params body scope dV kV doc pm an cdv ct) ⟨args, []⟩ = pure binds) (hloc : (binds.all fun x => decide (scope.names.lookup x.1 = some .local)) = true)
    (hco : scope.isCoroutine = false) (hgen : scope.isGenerator = false) (hk : scope.kind = .function)
    (h : ∀ A' E' β' L', Room ⟨C.W, A', E', β', L'⟩ k → Up C.β β' →
      T ⟨C.W, A', E', β', L'⟩ (bindM binds fun _ => none) (cellLed (L' + 1) scope.names led) (execs body (envOfC qual scope L' f cdv)) fun fl _ led' => ∃ l', List.Sublist l' led' ∧ Q (retv fl) m l') : T C m led (call (.ref f) args) Q := by
  refine r_callDefX (by have := R.d; unfold recursionLimit; omega) ho hcd hco hgen hk ?_
  rw [hbind]
  refine r_pure ⟨locs hloc, fun β' L' up _ => ?_⟩
  exact h _ _ β' L' ⟨by have := R.d; show C.A.depth + 1 + 2 * k < 1000; omega, by have := R.u; show C.A.units + 3 + 100 * k < 9900; omega, R.h⟩ up
theorem r_callDefS {Q : Value → Loc → Led → Prop} {name qual : Str} {params : Arguments} {body : List Stmt} {scope : Scope} {dV kV doc pm cdv ct oc : Value} {an od : Option Addr} {osl : Array (Option Value)} {f : Addr} {args : List Value} {k : Nat}
    (R : Room C (k + 1))
    (ho : (hd.heap_1 C.W.w.params).lookup f = some ⟨oc, od, .func (fnOf name qual params body scope dV kV doc pm an cdv ct), osl⟩) (hcd : codeIn (hd.heap_1 C.W.w.params) cdv qual = true)
    (hco : scope.isCoroutine = false) (hgen : scope.isGenerator = false) (hk : scope.kind = .function)
    (h : ∀ A1, T ⟨C.W, A1, C.E, C.β, C.L⟩ m led (bindArgs (fnOf name qual params body scope dV kV doc pm an cdv ct) ⟨args, []⟩) fun binds m1 l1 => (∀ y ∈ binds, scope.names.lookup y.1 = some .local) ∧
      ∀ A' E' β' L', Room ⟨C.W, A', E', β', L'⟩ k → Up C.β β' →
      T ⟨C.W, A', E', β', L'⟩ (bindM binds fun _ => none) (cellLed (L' + 1) scope.names l1) (execs body (envOfC qual scope L' f cdv)) fun fl _ led' => ∃ l', List.Sublist l' led' ∧ Q (retv fl) m1 l') : T C m led (call (.ref f) args) Q := by
  refine r_callDefX (by have := R.d; unfold recursionLimit; omega) ho hcd hco hgen hk ((h _).mono fun binds m1 l1 ⟨hl, h1⟩ => ⟨hl, fun β' L' up _ => ?_⟩)
  exact h1 _ _ β' L' ⟨by have := R.d; show C.A.depth + 1 + 2 * k < 1000; omega, by have := R.u; show C.A.units + 3 + 100 * k < 9900; omega, R.h⟩ up
end
end
section
section
theorem r_static {C : Cx} {m : Loc} {led : Led} {α : Type} {t : Sem α} {a : Addr} {o : Obj} {Q : α → Loc → Led → Prop} (e : (hd.heap_1 C.W.w.params).lookup a = some o) (h : Has C led a o → T C m led t Q) : T C m led t Q :=
  fun s P => h (.inr (C.W.X _ _ e)) s P
theorem r_statics {C : Cx} {m : Loc} {led : Led} {α : Type} {t : Sem α} {Q : α → Loc → Led → Prop} (h : (∀ a o, (hd.heap_1 C.W.w.params).lookup a = some o → C.W.h.get? a = some o) → T C m led t Q) : T C m led t Q :=
  fun s P => h (fun a o e => C.W.X _ _ e) s P
end
section
variable {C : Cx} {m : Loc} {led : Led} {env : Env} {Q : Value → Loc → Led → Prop}
theorem r_join {D : Addr} {vs : List Value} {n : Nat} {x : Str} {t : Tok} {texts : List Str} (hl : Has C led D (listO vs n)) (hs : StrsAre vs texts) (hok : JoinOk x texts = true) (h : ∀ t', Q (.str (Txt.join x texts) t') m led) :
    T C m led (call (.builtin "str.join") [.str x t, .ref D]) Q := fun s P => by
  obtain ⟨l, rfl, ht⟩ := strsAre_values hs
  exact SC.join (hl.isList P) ht hok fun t' k => ⟨m, led, P.tk _, h _⟩
theorem r_letTup {I l : Addr} {i : Nat} {o : Obj} {v : Value} {elts : List Expr} {x1 : Nat} {pos : Pos} {Q : Unit → Loc → Led → Prop} (hI : Has C led I o) (ho : TiO l i o) (h : Q () m led) : T C m led (letOwnedTupleGo (.Tuple elts x1 pos) (.ref I) v) Q := fun s P => by
  unfold letOwnedTupleGo
  cases v <;> first | exact wpAny_pure ⟨m, led, P, h⟩ | skip
  refine wpAny_bind (wpAny_load (hI.get P) ?_)
  rw [ho.1, ho.2]
  exact wpAny_ite_split (fun hab => absurd hab (by simp)) (fun _ => wpAny_pure ⟨m, led, P, h⟩)
theorem r_cwT {pos : Pos} {ty : String} {e : Expr} {rest : List Expr}
    (h : T C m led (spliced (backTo pos (starEach (e :: rest) env))) fun vs m1 l1 => T C m1 l1 (call (.type ty) vs) Q)
    (h1 : starEach (e :: rest) env = (false, eval e env) :: starEach rest env := by rfl) (h2 : (List.any (backTo pos (starEach rest env)) fun x => x.1) = false := by rfl) :
    T C m led (callWith pos (.type ty) [] (backTo pos (starEach (e :: rest) env)) []) Q :=
  fun s P => callWith_type1 (h.run P fun v s1 m1 l1 P1 h1 => h1 s1 P1) h1 h2
theorem strsAre_snoc {vs : List Value} {ys : List Str} {y : Str} {t : Tok} (h : StrsAre vs ys) : StrsAre (vs ++ [.str y t]) (ys ++ [y]) := by
  induction h with
  | nil => exact .cons y t .nil
  | cons z u _ ih => exact .cons z u ih
theorem r_Expr {e : Expr} {pos : Pos} {Q : Flow → Loc → Led → Prop} (h : T C m led (eval e env) fun _ => Q .next) (hi : interactive env = false := by rfl) (hs : swapsWith e none pos.line env = pure false := by rfl) : T C m led (exec (.Expr e pos) env) Q :=
  fun s P => wpAny_Expr_any (h s P) hi hs
theorem r_gmAppend {l : Addr} {vs : List Value} {n : Nat} {pl : Sem Bool} {Q : Value × List Value → Loc → Led → Prop} (hl : Has C led l (listO vs n)) (h : Q (.builtin "list.append", [.ref l]) m led) : T C m led (getMethod (.ref l) "append" pl) Q :=
  fun s P => getMethod_list_append (hl.get P) rfl rfl ⟨m, led, P, h⟩
theorem r_gmList {name : Str} {id : String} {l : Addr} {vs : List Value} {n : Nat} {pl : Sem Bool} {Q : Value × List Value → Loc → Led → Prop} (hl : Has C led l (listO vs n)) (slot : Slot "list" name id) (hty : typeOf (.builtin id) = pure (.type "method_descriptor"))
    (h : Q (.builtin id, [.ref l]) m led) : T C m led (getMethod (.ref l) name pl) Q :=
  fun s P => getMethod_builtin (hl.isList P).typeIs PySem.F.plainAttrs_list slot hty (fun a e => by cases e; exact ⟨_, hl.get P, rfl⟩) ⟨m, led, P, h⟩
end
end
theorem r_neg {C : Cx} {m : Loc} {led : Led} {a : Int} {t : Tok} {Q : Value → Loc → Led → Prop} (h : ∀ t', Q (.int (-a) t') m led) : T C m led (unaryOp .USub (.int a t)) Q := fun s P => neg_int ⟨m, led, P.tk _, h _⟩
theorem Room.of {C C' : Cx} {j k : Nat} (h : Room C k) (hk : j ≤ k) (e : C'.A = C.A) : Room C' j := by
  have h := h.le hk
  exact ⟨by rw [e]; exact h.d, by rw [e]; exact h.u, by rw [e]; exact h.h⟩
local macro_rules | `(tactic| walk_at "room") => `(tactic| first | assumption | exact Room.of (by assumption) (by decide) rfl | (refine' Room.of ?h ?k ?e; (case h => assumption); (case k => decide); (case e => rfl)))
local macro_rules | `(tactic| walk_at "enter") => `(tactic| ((case R => walk_at "room"); (case ho => k_is); (case hcd => k_is); (case hbind => exact rfl); (case hloc => exact rfl); (case hco => exact rfl); (case hgen => exact rfl); (case hk => exact rfl); (case hcell => decide)))
local macro_rules | `(tactic| walk_at "sub") => `(tactic| first | exact List.Sublist.refl _ | (refine List.Sublist.cons₂ _ ?_; walk_at "sub") | (refine List.Sublist.cons _ ?_; walk_at "sub") | exact List.nil_sublist _)
local macro_rules | `(tactic| walk_at "has") => `(tactic| first | assumption | exact Has.head | (refine Has.tail ?_; walk_at "has") | exact Has.up (by assumption) (by assumption))
theorem look_self {m : Loc} {x : Str} {v : Value} : upd m x v x = some v := if_pos rfl
theorem look_skip {m : Loc} {x y : Str} {v : Value} {w : Option Value} (h : (y == x) = false) (k : m y = w) : upd m x v y = w := (if_neg (by simpa using h)).trans k
theorem look_ne {m : Loc} {x y : Str} {v : Value} (h : (y == x) = false) : upd m x v y = m y := if_neg (by simpa using h)
local macro_rules | `(tactic| walk_at "look") => `(tactic| first | exact look_self | assumption | (refine look_skip (by decide) ?_; walk_at "look") | rfl)
theorem r_cut {α : Type} {C : Cx} {m : Loc} {led : Led} {t : Sem α} {Q : α → Loc → Led → Prop} (A : α) (M : Loc) (LL : Led) (h : T C m led t fun a m1 l1 => a = A ∧ m1 = M ∧ List.Sublist LL l1) (k : Q A M LL) : T C m led t Q :=
  fun s P => h.run P fun a s' m' l' P' ⟨e1, e2, e3⟩ => by subst e1 e2; exact ⟨m', LL, P'.drop e3, k⟩
abbrev Tst (m : Loc) (led : Led) (B : Bool) (a : Bool) (m1 : Loc) (l1 : Led) : Prop := a = B ∧ m1 = m ∧ List.Sublist led l1
section
variable {C : Cx} {m : Loc} {led : Led} {env : Env} {x : Expr} {rest : List Expr} {pos : Pos} {whole : Sem Value} {B1 B2 : Bool}
theorem Tst.run {Q : Bool → Loc → Led → Prop} {t : Sem Bool} (h : T C m led t (Tst m led B1)) (k : Q B1 m led) : T C m led t Q := fun s P => h.run P fun a s' m' l' P' ⟨e1, e2, e3⟩ => by subst e1 e2; exact ⟨m', led, P'.drop e3, k⟩
theorem Tst.and (h1 : T C m led (isTrue x env (eval x env)) (Tst m led B1)) (h2 : B1 = true → T C m led (isTrue (.BoolOp .And rest pos) env whole) (Tst m led B2)) : T C m led (isTrue (.BoolOp .And (x :: rest) pos) env whole) (Tst m led (B1 && B2)) := by
  refine r_isAnd (Tst.run h1 ?_)
  cases B1
  · exact ⟨rfl, rfl, .refl _⟩
  · exact h2 rfl
theorem Tst.and1 (h1 : T C m led (isTrue x env (eval x env)) (Tst m led B1)) : T C m led (isTrue (.BoolOp .And [x] pos) env whole) (Tst m led B1) := by
  have := Tst.and (pos := pos) (whole := whole) (rest := []) h1 (B2 := true) (fun _ => r_isAndNil ⟨rfl, rfl, .refl _⟩)
  simpa using this
theorem Tst.or (h1 : T C m led (isTrue x env (eval x env)) (Tst m led B1)) (h2 : B1 = false → T C m led (isTrue (.BoolOp .Or rest pos) env whole) (Tst m led B2)) : T C m led (isTrue (.BoolOp .Or (x :: rest) pos) env whole) (Tst m led (B1 || B2)) := by
  refine r_isOr (Tst.run h1 ?_)
  cases B1
  · exact h2 rfl
  · exact ⟨rfl, rfl, .refl _⟩
theorem Tst.or1 (h1 : T C m led (isTrue x env (eval x env)) (Tst m led B1)) : T C m led (isTrue (.BoolOp .Or [x] pos) env whole) (Tst m led B1) := by
  have := Tst.or (pos := pos) (whole := whole) (rest := []) h1 (B2 := false) (fun _ => r_isOrNil ⟨rfl, rfl, .refl _⟩)
  simpa using this
theorem Tst.not (h1 : T C m led (isTrue x env (eval x env)) (Tst m led B1)) : T C m led (isTrue (.UnaryOp .Not x pos) env whole) (Tst m led (!B1)) := r_isNot (Tst.run h1 ⟨rfl, rfl, .refl _⟩)
end
theorem r_cutS {α : Type} {C : Cx} {m : Loc} {led : Led} {t : Sem α} {Q : α → Loc → Led → Prop} (A : α) (LL : Led) (h : T C m led t fun a m1 l1 => a = A ∧ m1 = m ∧ List.Sublist LL l1) (k : Q A m LL) : T C m led t Q := r_cut A m LL h k
namespace F1
section
variable {C : Cx} {m : Loc} {led : Led} {x y : Int} {t u : Tok} {Q : Value → Loc → Led → Prop}
theorem imode_spec (R : Room C 1) (h : ∀ t', Q (.int (Builtin.bitAnd x 4095) t') m led) : T C m led (call (.ref 184) [.int x t]) Q := by
  refine' r_callDef (binds := [("mode", .int x t)]) (k := 0) ?R ?ho ?hcd ?hbind ?hloc ?hco ?hgen ?hk ?hcell fun A' E' β' L' R' up => ?_
  walk_at "enter"
  with_reducible refine r_consQ fun QQ hQQ => ?_
  with_reducible refine r_Ret ?_
  with_reducible refine r_BinOp ?_
  refine r_local rfl rfl rfl rfl ?_
  with_reducible refine r_int fun zt => ?_
  with_reducible refine r_band fun zt => ?_
  with_reducible refine leafR (by assumption) ?_
  exact ⟨_, .refl _, h _⟩
theorem ifmt_spec (R : Room C 1) (h : ∀ t', Q (.int (Builtin.bitAnd x 61440) t') m led) : T C m led (call (.ref 191) [.int x t]) Q := by
  refine' r_callDef (binds := [("mode", .int x t)]) (k := 0) ?R ?ho ?hcd ?hbind ?hloc ?hco ?hgen ?hk ?hcell fun A' E' β' L' R' up => ?_
  walk_at "enter"
  with_reducible refine r_consQ fun QQ hQQ => ?_
  with_reducible refine r_Ret ?_
  with_reducible refine r_BinOp ?_
  refine r_local rfl rfl rfl rfl ?_
  with_reducible refine r_int fun zt => ?_
  with_reducible refine r_band fun zt => ?_
  with_reducible refine leafR (by assumption) ?_
  exact ⟨_, .refl _, h _⟩
theorem isdir_spec (R : Room C 2) (h : Q (.bool (Builtin.bitAnd x 61440 == 16384)) m led) : T C m led (call (.ref 198) [.int x t]) Q := by
  refine' r_callDef (binds := [("mode", .int x t)]) (k := 1) ?R ?ho ?hcd ?hbind ?hloc ?hco ?hgen ?hk ?hcell fun A' E' β' L' R' up => ?_
  walk_at "enter"
  with_reducible refine r_consQ fun QQ hQQ => ?_
  with_reducible refine r_Ret ?_
  with_reducible refine r_Cmp ?_
  refine r_Call ?_
  (refine' r_global rfl rfl rfl ?e ?_; (case e => k_is))
  refine' r_cwK ?hf ?_; (case hf => k_is)
  refine r_argCons ?_
  refine r_local rfl rfl rfl rfl ?_
  with_reducible refine r_argNil ?_
  (refine ifmt_spec ?R ?_; (case R => walk_at "room"); intro zt)
  (refine' r_global rfl rfl rfl ?e ?_; (case e => k_is))
  with_reducible refine r_eqI ?_
  with_reducible refine leafR (by assumption) ?_
  exact ⟨_, .refl _, h⟩
theorem ischr_spec (R : Room C 2) (h : Q (.bool (Builtin.bitAnd x 61440 == 8192)) m led) : T C m led (call (.ref 205) [.int x t]) Q := by
  refine' r_callDef (binds := [("mode", .int x t)]) (k := 1) ?R ?ho ?hcd ?hbind ?hloc ?hco ?hgen ?hk ?hcell fun A' E' β' L' R' up => ?_
  walk_at "enter"
  with_reducible refine r_consQ fun QQ hQQ => ?_
  with_reducible refine r_Ret ?_
  with_reducible refine r_Cmp ?_
  refine r_Call ?_
  (refine' r_global rfl rfl rfl ?e ?_; (case e => k_is))
  refine' r_cwK ?hf ?_; (case hf => k_is)
  refine r_argCons ?_
  refine r_local rfl rfl rfl rfl ?_
  with_reducible refine r_argNil ?_
  (refine ifmt_spec ?R ?_; (case R => walk_at "room"); intro zt)
  (refine' r_global rfl rfl rfl ?e ?_; (case e => k_is))
  with_reducible refine r_eqI ?_
  with_reducible refine leafR (by assumption) ?_
  exact ⟨_, .refl _, h⟩
theorem isblk_spec (R : Room C 2) (h : Q (.bool (Builtin.bitAnd x 61440 == 24576)) m led) : T C m led (call (.ref 212) [.int x t]) Q := by
  refine' r_callDef (binds := [("mode", .int x t)]) (k := 1) ?R ?ho ?hcd ?hbind ?hloc ?hco ?hgen ?hk ?hcell fun A' E' β' L' R' up => ?_
  walk_at "enter"
  with_reducible refine r_consQ fun QQ hQQ => ?_
  with_reducible refine r_Ret ?_
  with_reducible refine r_Cmp ?_
  refine r_Call ?_
  (refine' r_global rfl rfl rfl ?e ?_; (case e => k_is))
  refine' r_cwK ?hf ?_; (case hf => k_is)
  refine r_argCons ?_
  refine r_local rfl rfl rfl rfl ?_
  with_reducible refine r_argNil ?_
  (refine ifmt_spec ?R ?_; (case R => walk_at "room"); intro zt)
  (refine' r_global rfl rfl rfl ?e ?_; (case e => k_is))
  with_reducible refine r_eqI ?_
  with_reducible refine leafR (by assumption) ?_
  exact ⟨_, .refl _, h⟩
theorem isreg_spec (R : Room C 2) (h : Q (.bool (Builtin.bitAnd x 61440 == 32768)) m led) : T C m led (call (.ref 219) [.int x t]) Q := by
  refine' r_callDef (binds := [("mode", .int x t)]) (k := 1) ?R ?ho ?hcd ?hbind ?hloc ?hco ?hgen ?hk ?hcell fun A' E' β' L' R' up => ?_
  walk_at "enter"
  with_reducible refine r_consQ fun QQ hQQ => ?_
  with_reducible refine r_Ret ?_
  with_reducible refine r_Cmp ?_
  refine r_Call ?_
  (refine' r_global rfl rfl rfl ?e ?_; (case e => k_is))
  refine' r_cwK ?hf ?_; (case hf => k_is)
  refine r_argCons ?_
  refine r_local rfl rfl rfl rfl ?_
  with_reducible refine r_argNil ?_
  (refine ifmt_spec ?R ?_; (case R => walk_at "room"); intro zt)
  (refine' r_global rfl rfl rfl ?e ?_; (case e => k_is))
  with_reducible refine r_eqI ?_
  with_reducible refine leafR (by assumption) ?_
  exact ⟨_, .refl _, h⟩
theorem isfifo_spec (R : Room C 2) (h : Q (.bool (Builtin.bitAnd x 61440 == 4096)) m led) : T C m led (call (.ref 226) [.int x t]) Q := by
  refine' r_callDef (binds := [("mode", .int x t)]) (k := 1) ?R ?ho ?hcd ?hbind ?hloc ?hco ?hgen ?hk ?hcell fun A' E' β' L' R' up => ?_
  walk_at "enter"
  with_reducible refine r_consQ fun QQ hQQ => ?_
  with_reducible refine r_Ret ?_
  with_reducible refine r_Cmp ?_
  refine r_Call ?_
  (refine' r_global rfl rfl rfl ?e ?_; (case e => k_is))
  refine' r_cwK ?hf ?_; (case hf => k_is)
  refine r_argCons ?_
  refine r_local rfl rfl rfl rfl ?_
  with_reducible refine r_argNil ?_
  (refine ifmt_spec ?R ?_; (case R => walk_at "room"); intro zt)
  (refine' r_global rfl rfl rfl ?e ?_; (case e => k_is))
  with_reducible refine r_eqI ?_
  with_reducible refine leafR (by assumption) ?_
  exact ⟨_, .refl _, h⟩
theorem islnk_spec (R : Room C 2) (h : Q (.bool (Builtin.bitAnd x 61440 == 40960)) m led) : T C m led (call (.ref 233) [.int x t]) Q := by
  refine' r_callDef (binds := [("mode", .int x t)]) (k := 1) ?R ?ho ?hcd ?hbind ?hloc ?hco ?hgen ?hk ?hcell fun A' E' β' L' R' up => ?_
  walk_at "enter"
  with_reducible refine r_consQ fun QQ hQQ => ?_
  with_reducible refine r_Ret ?_
  with_reducible refine r_Cmp ?_
  refine r_Call ?_
  (refine' r_global rfl rfl rfl ?e ?_; (case e => k_is))
  refine' r_cwK ?hf ?_; (case hf => k_is)
  refine r_argCons ?_
  refine r_local rfl rfl rfl rfl ?_
  with_reducible refine r_argNil ?_
  (refine ifmt_spec ?R ?_; (case R => walk_at "room"); intro zt)
  (refine' r_global rfl rfl rfl ?e ?_; (case e => k_is))
  with_reducible refine r_eqI ?_
  with_reducible refine leafR (by assumption) ?_
  exact ⟨_, .refl _, h⟩
theorem issock_spec (R : Room C 2) (h : Q (.bool (Builtin.bitAnd x 61440 == 49152)) m led) : T C m led (call (.ref 240) [.int x t]) Q := by
  refine' r_callDef (binds := [("mode", .int x t)]) (k := 1) ?R ?ho ?hcd ?hbind ?hloc ?hco ?hgen ?hk ?hcell fun A' E' β' L' R' up => ?_
  walk_at "enter"
  with_reducible refine r_consQ fun QQ hQQ => ?_
  with_reducible refine r_Ret ?_
  with_reducible refine r_Cmp ?_
  refine r_Call ?_
  (refine' r_global rfl rfl rfl ?e ?_; (case e => k_is))
  refine' r_cwK ?hf ?_; (case hf => k_is)
  refine r_argCons ?_
  refine r_local rfl rfl rfl rfl ?_
  with_reducible refine r_argNil ?_
  (refine ifmt_spec ?R ?_; (case R => walk_at "room"); intro zt)
  (refine' r_global rfl rfl rfl ?e ?_; (case e => k_is))
  with_reducible refine r_eqI ?_
  with_reducible refine leafR (by assumption) ?_
  exact ⟨_, .refl _, h⟩
def madeF (mode rights : Int) : Int :=
  let own := Builtin.bitAnd mode 4095
  let k := Builtin.bitAnd mode 61440
  if k == 16384 then Builtin.bitOr rights own
  else if k == 32768 then Builtin.bitAnd rights own
  else if k == 8192 then Builtin.bitXor rights own
  else if k == 24576 then Builtin.bitAnd rights (4095 - own)
  else if k == 49152 then Builtin.bitOr rights (4095 - own)
  else if k == 4096 then own
  else if k == 40960 then rights else 0
local macro_rules | `(tactic| walk_at "is") => `(tactic| first | refine isdir_spec ?R ?_ | refine ischr_spec ?R ?_ | refine isblk_spec ?R ?_ | refine isreg_spec ?R ?_ | refine isfifo_spec ?R ?_ | refine islnk_spec ?R ?_ | refine issock_spec ?R ?_)
theorem qI {a b : Int} {t : Tok} {Q : Value → Loc → Led → Prop} {m : Loc} {led l' : Led} (h : ∀ t', Q (.int a t') m led) (e : a = b) (hs : List.Sublist led l') : ∃ l2, List.Sublist l2 l' ∧ Q (.int b t) m l2 := ⟨led, hs, e ▸ h _⟩
theorem made_spec (R : Room C 3) (h : ∀ t', Q (.int (madeF x y) t') m led) : T C m led (call (.ref 299) [.int x t, .int y u]) Q := by
  refine' r_callDef (binds := [("mode", .int x t), ("rights", .int y u)]) (k := 2) ?R ?ho ?hcd ?hbind ?hloc ?hco ?hgen ?hk ?hcell fun A' E' β' L' R' up => ?_
  walk_at "enter"
  with_reducible refine r_consQ fun QQ hQQ => ?_
  refine r_Assign ?_
  refine r_Call ?_
  (refine' r_global rfl rfl rfl ?e ?_; (case e => k_is))
  refine' r_cwK ?hf ?_; (case hf => k_is)
  refine r_argCons ?_
  refine r_local rfl rfl rfl rfl ?_
  with_reducible refine r_argNil ?_
  (refine imode_spec ?R ?_; (case R => walk_at "room"); intro zt)
  refine r_store rfl rfl rfl ?_
  with_reducible refine leafN (by assumption) ?_
  with_reducible refine r_consQ fun QQ hQQ => ?_
  refine r_If ?_
  refine r_isPlain ?_
  refine r_Call ?_
  (refine' r_global rfl rfl rfl ?e ?_; (case e => k_is))
  refine' r_cwK ?hf ?_; (case hf => k_is)
  refine r_argCons ?_
  refine r_local rfl rfl rfl rfl ?_
  with_reducible refine r_argNil ?_
  (walk_at "is"; (case R => walk_at "room"))
  with_reducible refine r_tBool ?_
  refine iteB (fun hb => ?_) (fun hb => ?_)
  · with_reducible refine r_consQ fun QQ hQQ => ?_
    with_reducible refine r_Ret ?_
    with_reducible refine r_BinOp ?_
    refine r_local rfl rfl rfl rfl ?_
    refine r_local rfl rfl rfl rfl ?_
    with_reducible refine r_bor fun zt => ?_
    with_reducible refine leafR (by assumption) ?_
    with_reducible refine leafR (by assumption) ?_
    exact qI h (by simp only [madeF, *, if_true, if_false, Bool.false_eq_true]) (.refl _)
  with_reducible refine r_nil ?_
  with_reducible refine leafN (by assumption) ?_
  with_reducible refine r_consQ fun QQ hQQ => ?_
  refine r_If ?_
  refine r_isPlain ?_
  refine r_Call ?_
  (refine' r_global rfl rfl rfl ?e ?_; (case e => k_is))
  refine' r_cwK ?hf ?_; (case hf => k_is)
  refine r_argCons ?_
  refine r_local rfl rfl rfl rfl ?_
  with_reducible refine r_argNil ?_
  (walk_at "is"; (case R => walk_at "room"))
  with_reducible refine r_tBool ?_
  refine iteB (fun hb => ?_) (fun hb => ?_)
  · with_reducible refine r_consQ fun QQ hQQ => ?_
    with_reducible refine r_Ret ?_
    with_reducible refine r_BinOp ?_
    refine r_local rfl rfl rfl rfl ?_
    refine r_local rfl rfl rfl rfl ?_
    with_reducible refine r_band fun zt => ?_
    with_reducible refine leafR (by assumption) ?_
    with_reducible refine leafR (by assumption) ?_
    exact qI h (by simp only [madeF, *, if_true, if_false, Bool.false_eq_true]) (.refl _)
  with_reducible refine r_nil ?_
  with_reducible refine leafN (by assumption) ?_
  with_reducible refine r_consQ fun QQ hQQ => ?_
  refine r_If ?_
  refine r_isPlain ?_
  refine r_Call ?_
  (refine' r_global rfl rfl rfl ?e ?_; (case e => k_is))
  refine' r_cwK ?hf ?_; (case hf => k_is)
  refine r_argCons ?_
  refine r_local rfl rfl rfl rfl ?_
  with_reducible refine r_argNil ?_
  (walk_at "is"; (case R => walk_at "room"))
  with_reducible refine r_tBool ?_
  refine iteB (fun hb => ?_) (fun hb => ?_)
  · with_reducible refine r_consQ fun QQ hQQ => ?_
    with_reducible refine r_Ret ?_
    with_reducible refine r_BinOp ?_
    refine r_local rfl rfl rfl rfl ?_
    refine r_local rfl rfl rfl rfl ?_
    with_reducible refine r_bxor fun zt => ?_
    with_reducible refine leafR (by assumption) ?_
    with_reducible refine leafR (by assumption) ?_
    exact qI h (by simp only [madeF, *, if_true, if_false, Bool.false_eq_true]) (.refl _)
  with_reducible refine r_nil ?_
  with_reducible refine leafN (by assumption) ?_
  with_reducible refine r_consQ fun QQ hQQ => ?_
  refine r_If ?_
  refine r_isPlain ?_
  refine r_Call ?_
  (refine' r_global rfl rfl rfl ?e ?_; (case e => k_is))
  refine' r_cwK ?hf ?_; (case hf => k_is)
  refine r_argCons ?_
  refine r_local rfl rfl rfl rfl ?_
  with_reducible refine r_argNil ?_
  (walk_at "is"; (case R => walk_at "room"))
  with_reducible refine r_tBool ?_
  refine iteB (fun hb => ?_) (fun hb => ?_)
  · with_reducible refine r_consQ fun QQ hQQ => ?_
    with_reducible refine r_Ret ?_
    with_reducible refine r_BinOp ?_
    refine r_local rfl rfl rfl rfl ?_
    with_reducible refine r_BinOp ?_
    with_reducible refine r_int fun zt => ?_
    refine r_local rfl rfl rfl rfl ?_
    with_reducible refine r_sub fun zt => ?_
    with_reducible refine r_band fun zt => ?_
    with_reducible refine leafR (by assumption) ?_
    with_reducible refine leafR (by assumption) ?_
    exact qI h (by simp only [madeF, *, if_true, if_false, Bool.false_eq_true]) (.refl _)
  with_reducible refine r_nil ?_
  with_reducible refine leafN (by assumption) ?_
  with_reducible refine r_consQ fun QQ hQQ => ?_
  refine r_If ?_
  refine r_isPlain ?_
  refine r_Call ?_
  (refine' r_global rfl rfl rfl ?e ?_; (case e => k_is))
  refine' r_cwK ?hf ?_; (case hf => k_is)
  refine r_argCons ?_
  refine r_local rfl rfl rfl rfl ?_
  with_reducible refine r_argNil ?_
  (walk_at "is"; (case R => walk_at "room"))
  with_reducible refine r_tBool ?_
  refine iteB (fun hb => ?_) (fun hb => ?_)
  · with_reducible refine r_consQ fun QQ hQQ => ?_
    with_reducible refine r_Ret ?_
    with_reducible refine r_BinOp ?_
    refine r_local rfl rfl rfl rfl ?_
    with_reducible refine r_BinOp ?_
    with_reducible refine r_int fun zt => ?_
    refine r_local rfl rfl rfl rfl ?_
    with_reducible refine r_sub fun zt => ?_
    with_reducible refine r_bor fun zt => ?_
    with_reducible refine leafR (by assumption) ?_
    with_reducible refine leafR (by assumption) ?_
    exact qI h (by simp only [madeF, *, if_true, if_false, Bool.false_eq_true]) (.refl _)
  with_reducible refine r_nil ?_
  with_reducible refine leafN (by assumption) ?_
  with_reducible refine r_consQ fun QQ hQQ => ?_
  refine r_If ?_
  refine r_isPlain ?_
  refine r_Call ?_
  (refine' r_global rfl rfl rfl ?e ?_; (case e => k_is))
  refine' r_cwK ?hf ?_; (case hf => k_is)
  refine r_argCons ?_
  refine r_local rfl rfl rfl rfl ?_
  with_reducible refine r_argNil ?_
  (walk_at "is"; (case R => walk_at "room"))
  with_reducible refine r_tBool ?_
  refine iteB (fun hb => ?_) (fun hb => ?_)
  · with_reducible refine r_consQ fun QQ hQQ => ?_
    with_reducible refine r_Ret ?_
    refine r_local rfl rfl rfl rfl ?_
    with_reducible refine leafR (by assumption) ?_
    with_reducible refine leafR (by assumption) ?_
    exact qI h (by simp only [madeF, *, if_true, if_false, Bool.false_eq_true]) (.refl _)
  with_reducible refine r_nil ?_
  with_reducible refine leafN (by assumption) ?_
  with_reducible refine r_consQ fun QQ hQQ => ?_
  refine r_If ?_
  refine r_isPlain ?_
  refine r_Call ?_
  (refine' r_global rfl rfl rfl ?e ?_; (case e => k_is))
  refine' r_cwK ?hf ?_; (case hf => k_is)
  refine r_argCons ?_
  refine r_local rfl rfl rfl rfl ?_
  with_reducible refine r_argNil ?_
  (walk_at "is"; (case R => walk_at "room"))
  with_reducible refine r_tBool ?_
  refine iteB (fun hb => ?_) (fun hb => ?_)
  · with_reducible refine r_consQ fun QQ hQQ => ?_
    with_reducible refine r_Ret ?_
    refine r_local rfl rfl rfl rfl ?_
    with_reducible refine leafR (by assumption) ?_
    with_reducible refine leafR (by assumption) ?_
    exact qI h (by simp only [madeF, *, if_true, if_false, Bool.false_eq_true]) (.refl _)
  · with_reducible refine r_nil ?_
    with_reducible refine leafN (by assumption) ?_
    with_reducible refine r_consQ fun QQ hQQ => ?_
    with_reducible refine r_Ret ?_
    with_reducible refine r_int fun zt => ?_
    with_reducible refine leafR (by assumption) ?_
    exact qI h (by simp only [madeF, *, if_true, if_false, Bool.false_eq_true]) (.refl _)
end
end F1
namespace F2
open F1
section
variable {C : Cx} {m : Loc} {led : Led} {Q : Value → Loc → Led → Prop}
def bitF (bit : Int) : List Int → Int → Int
  | [], turns => turns
  | mode :: rest, turns =>
    let kind := (mode.fdiv 4096).fmod 16
    let has := (mode.fdiv (2 ^ bit.toNat)).fmod 2
    if (kind == 4 && has == 1 || kind == 12 && has == 0) = true then 1 - turns
    else if (kind == 8 && has == 0 || (kind == 6 && has == 1 || !([1, 2, 4, 6, 8, 10, 12].any (· == kind)))) = true then turns
    else if (kind == 1) = true then (has + turns).fmod 2
    else if (kind == 2) = true then bitF bit rest ((turns + has).fmod 2)
    else bitF bit rest turns
theorem pyl_4096 (a : Int) : Builtin.divisionGoesByPylong a 4096 = false := by
  unfold Builtin.divisionGoesByPylong; rfl
theorem pyl_pow (a : Int) (n : Nat) (h : n ≤ 12) : Builtin.divisionGoesByPylong a (2 ^ n) = false := by
  have key : ∀ m : Fin 13, decide ((if ((2 : Int) ^ (m : Nat) == 0) = true then 0 else ((2 : Int) ^ (m : Nat)).natAbs.log2 / 30 + 1) > 300) = false := by decide +kernel
  have := key ⟨n, by omega⟩
  unfold Builtin.divisionGoesByPylong
  simp only at this ⊢
  rw [this, Bool.false_and]
theorem intsAre_get {vs : List Value} {ns : List Int} (h : IntsAre vs ns) : ∀ {i : Nat} {v : Value}, vs[i]? = some v → ∃ n t, ns[i]? = some n ∧ v = .int n t := by
  induction h with
  | nil => intro i v e; simp at e
  | cons n t _ ih =>
    intro i v e
    cases i with
    | zero => simp at e; exact ⟨n, t, by simp, e.symm⟩
    | succ i => simp at e; simpa using ih e
theorem bit_spec {l : Addr} {vs : List Value} {ns : List Int} {k : Nat} {bit : Int} {t : Tok} (R : Room C 3) (hl : Has C led l (listO vs k)) (hi : IntsAre vs ns) (h0 : 0 ≤ bit) (h1 : bit ≤ 11)
    (h : ∀ t', Q (.int (bitF bit ns 0) t') m led) : T C m led (call (.ref 306) [.ref l, .int bit t]) Q := by
  refine' r_callDef (binds := [("chain", .ref l), ("bit", .int bit t)]) (k := 2) ?R ?ho ?hcd ?hbind ?hloc ?hco ?hgen ?hk ?hcell fun A' E' β' L' R' up => ?_
  walk_at "enter"
  with_reducible refine r_consQ fun QQ hQQ => ?_
  refine r_Assign ?_
  with_reducible refine r_int fun zt => ?_
  refine r_store rfl rfl rfl ?_
  with_reducible refine leafN (by assumption) ?_
  with_reducible refine r_consQ fun QQ hQQ => ?_
  refine r_ForList R'.h ?_
  refine r_local rfl rfl rfl rfl ?_
  refine ⟨l, vs, k, fun i m' l' => A3 (l' = led) (m' "bit" = some (.int bit t)) (Ex2 fun a ta => m' "turns" = some (.int a ta) ∧ bitF bit (ns.drop i) a = bitF bit ns 0), rfl, Has.up hl up, ?_, ?_, ?_, ?_⟩
  · rintro i m' l' ⟨rfl, _⟩; exact Has.up hl up
  · exact ⟨rfl, rfl, 0, _, rfl, rfl⟩
  · rintro E'' I o i v m' l' hv ⟨rfl, hb, a, ta, ht, he⟩
    obtain ⟨n, tn, hn, rfl⟩ := intsAre_get hi hv
    have hd : ns.drop i = n :: ns.drop (i + 1) := by
      have := List.getElem?_eq_some_iff.mp hn
      obtain ⟨h3, h4⟩ := this
      rw [← h4]; exact List.drop_eq_getElem_cons h3
    rw [hd] at he
    refine r_store rfl rfl rfl ?_
    with_reducible refine r_consQ fun QQ hQQ => ?_
    refine r_AssignSwap (names := ["kind", "has"]) ?_
    with_reducible refine r_Tuple ?_
    refine r_argCons ?_
    with_reducible refine r_BinOp ?_
    with_reducible refine r_BinOp ?_
    refine r_local rfl rfl rfl rfl ?_
    with_reducible refine r_int fun zt => ?_
    refine r_fdiv (by decide) (pyl_4096 _) fun t1 => ?_
    with_reducible refine r_int fun zt => ?_
    refine r_mod (by decide) fun t2 => ?_
    refine r_argCons ?_
    with_reducible refine r_BinOp ?_
    with_reducible refine r_BinOp ?_
    refine r_local rfl rfl rfl rfl ?_
    with_reducible refine r_BinOp ?_
    with_reducible refine r_int fun zt => ?_
    (refine' r_local rfl rfl rfl ?hv ?_; (case hv => walk_at "look"))
    refine r_pow h0 (by omega) (by decide) fun t3 => ?_
    refine r_fdiv (Int.ne_of_gt (Int.pow_pos (by decide))) (pyl_pow _ _ (by omega)) fun t4 => ?_
    with_reducible refine r_int fun zt => ?_
    refine r_mod (by decide) fun t5 => ?_
    with_reducible refine r_argNil ?_
    refine r_newTuple (Nat.le_of_ble_eq_true rfl) ?_; intro za1
    refine r_unpackTup R'.h Has.head rfl ?_
    refine r_drop (led' := (I, o) :: l') ?_ (by walk_at "sub")
    refine r_asCons (r_bindName ?_)
    refine r_store rfl rfl rfl ?_
    refine r_asCons (r_bindName ?_)
    refine r_store rfl rfl rfl ?_
    refine r_asNil ?_
    with_reducible refine leafN (by assumption) ?_
    with_reducible refine r_consQ fun QQ hQQ => ?_
    generalize hK : (n.fdiv 4096).fmod 16 = K at *
    generalize hH : (n.fdiv (2 ^ bit.toNat)).fmod 2 = H at *
    simp only [bitF, hK, hH] at he
    refine r_If (Tst.run (B1 := K == 4 && H == 1 || K == 12 && H == 0) ?cc ?_)
    (case cc => (refine Tst.or ?_ (fun _ => ?_); refine Tst.and ?_ (fun _ => ?_); (with_reducible refine r_isCmp ?_); refine r_local rfl rfl rfl rfl ?_; (with_reducible refine r_int fun zt => ?_); (with_reducible refine r_eqI ?_); (with_reducible refine r_tBool ?_); (refine ⟨?_, ?_, ?_⟩ <;> first | rfl | walk_at "sub"); refine Tst.and1 ?_; (with_reducible refine r_isCmp ?_); refine r_local rfl rfl rfl rfl ?_; (with_reducible refine r_int fun zt => ?_); (with_reducible refine r_eqI ?_); (with_reducible refine r_tBool ?_); (refine ⟨?_, ?_, ?_⟩ <;> first | rfl | walk_at "sub"); refine Tst.or1 ?_; refine Tst.and ?_ (fun _ => ?_); (with_reducible refine r_isCmp ?_); refine r_local rfl rfl rfl rfl ?_; (with_reducible refine r_int fun zt => ?_); (with_reducible refine r_eqI ?_); (with_reducible refine r_tBool ?_); (refine ⟨?_, ?_, ?_⟩ <;> first | rfl | walk_at "sub"); refine Tst.and1 ?_; (with_reducible refine r_isCmp ?_); refine r_local rfl rfl rfl rfl ?_; (with_reducible refine r_int fun zt => ?_); (with_reducible refine r_eqI ?_); (with_reducible refine r_tBool ?_); (refine ⟨?_, ?_, ?_⟩ <;> first | rfl | walk_at "sub")))
    refine iteB (fun hb1 => ?_) (fun hb1 => ?_)
    · rw [if_pos hb1] at he
      with_reducible refine r_consQ fun QQ hQQ => ?_
      with_reducible refine r_Ret ?_
      with_reducible refine r_BinOp ?_
      with_reducible refine r_int fun zt => ?_
      (refine' r_local rfl rfl rfl ?hv ?_; (case hv => walk_at "look"))
      with_reducible refine r_sub fun zt => ?_
      with_reducible refine leafR (by assumption) ?_
      with_reducible refine leafR (by assumption) ?_
      with_reducible refine TurnF.ret ?_
      with_reducible refine leafR (by assumption) ?_
      exact qI h he.symm (by walk_at "sub")
    rw [if_neg (by simp only [hb1]; decide)] at he
    with_reducible refine r_nil ?_
    with_reducible refine leafN (by assumption) ?_
    with_reducible refine r_consQ fun QQ hQQ => ?_
    refine r_If (Tst.run (B1 := K == 8 && H == 0 || (K == 6 && H == 1 || !([1, 2, 4, 6, 8, 10, 12].any (· == K)))) ?cc ?_)
    (case cc => (refine Tst.or ?_ (fun _ => ?_); refine Tst.and ?_ (fun _ => ?_); (with_reducible refine r_isCmp ?_); refine r_local rfl rfl rfl rfl ?_; (with_reducible refine r_int fun zt => ?_); (with_reducible refine r_eqI ?_); (with_reducible refine r_tBool ?_); (refine ⟨?_, ?_, ?_⟩ <;> first | rfl | walk_at "sub"); refine Tst.and1 ?_; (with_reducible refine r_isCmp ?_); refine r_local rfl rfl rfl rfl ?_; (with_reducible refine r_int fun zt => ?_); (with_reducible refine r_eqI ?_); (with_reducible refine r_tBool ?_); (refine ⟨?_, ?_, ?_⟩ <;> first | rfl | walk_at "sub"); refine Tst.or ?_ (fun _ => ?_); refine Tst.and ?_ (fun _ => ?_); (with_reducible refine r_isCmp ?_); refine r_local rfl rfl rfl rfl ?_; (with_reducible refine r_int fun zt => ?_); (with_reducible refine r_eqI ?_); (with_reducible refine r_tBool ?_); (refine ⟨?_, ?_, ?_⟩ <;> first | rfl | walk_at "sub"); refine Tst.and1 ?_; (with_reducible refine r_isCmp ?_); refine r_local rfl rfl rfl rfl ?_; (with_reducible refine r_int fun zt => ?_); (with_reducible refine r_eqI ?_); (with_reducible refine r_tBool ?_); (refine ⟨?_, ?_, ?_⟩ <;> first | rfl | walk_at "sub"); refine Tst.or1 ?_; (with_reducible refine r_isCmp ?_); refine r_local rfl rfl rfl rfl ?_; (with_reducible refine r_Tuple ?_); refine r_argCons ?_; (with_reducible refine r_int fun zt => ?_); refine r_argCons ?_; (with_reducible refine r_int fun zt => ?_); refine r_argCons ?_; (with_reducible refine r_int fun zt => ?_); refine r_argCons ?_; (with_reducible refine r_int fun zt => ?_); refine r_argCons ?_; (with_reducible refine r_int fun zt => ?_); refine r_argCons ?_; (with_reducible refine r_int fun zt => ?_); refine r_argCons ?_; (with_reducible refine r_int fun zt => ?_); (with_reducible refine r_argNil ?_); refine r_newTuple (Nat.le_of_ble_eq_true rfl) ?_; intro za2; refine' r_notinTupI Has.head ?hi ?_; (case hi => (repeat constructor)); (with_reducible refine r_tBool ?_); (refine ⟨?_, ?_, ?_⟩ <;> first | rfl | walk_at "sub")))
    refine iteB (fun hb2 => ?_) (fun hb2 => ?_)
    · rw [if_pos hb2] at he
      with_reducible refine r_consQ fun QQ hQQ => ?_
      with_reducible refine r_Ret ?_
      (refine' r_local rfl rfl rfl ?hv ?_; (case hv => walk_at "look"))
      with_reducible refine leafR (by assumption) ?_
      with_reducible refine leafR (by assumption) ?_
      with_reducible refine TurnF.ret ?_
      with_reducible refine leafR (by assumption) ?_
      exact qI h he.symm (by walk_at "sub")
    rw [if_neg (by simp only [hb2]; decide)] at he
    with_reducible refine r_nil ?_
    with_reducible refine leafN (by assumption) ?_
    with_reducible refine r_consQ fun QQ hQQ => ?_
    refine r_If ?_
    with_reducible refine r_isCmp ?_
    refine r_local rfl rfl rfl rfl ?_
    with_reducible refine r_int fun zt => ?_
    with_reducible refine r_eqI ?_
    with_reducible refine r_tBool ?_
    refine iteB (fun hb3 => ?_) (fun hb3 => ?_)
    · rw [if_pos hb3] at he
      with_reducible refine r_consQ fun QQ hQQ => ?_
      with_reducible refine r_Ret ?_
      with_reducible refine r_BinOp ?_
      with_reducible refine r_BinOp ?_
      refine r_local rfl rfl rfl rfl ?_
      (refine' r_local rfl rfl rfl ?hv ?_; (case hv => walk_at "look"))
      with_reducible refine r_add fun zt => ?_
      with_reducible refine r_int fun zt => ?_
      refine r_mod (by decide) fun t6 => ?_
      with_reducible refine leafR (by assumption) ?_
      with_reducible refine leafR (by assumption) ?_
      with_reducible refine TurnF.ret ?_
      with_reducible refine leafR (by assumption) ?_
      exact qI h he.symm (by walk_at "sub")
    rw [if_neg (by simp only [hb3]; decide)] at he
    with_reducible refine r_nil ?_
    with_reducible refine leafN (by assumption) ?_
    with_reducible refine r_consQ fun QQ hQQ => ?_
    refine r_If ?_
    with_reducible refine r_isCmp ?_
    refine r_local rfl rfl rfl rfl ?_
    with_reducible refine r_int fun zt => ?_
    with_reducible refine r_eqI ?_
    with_reducible refine r_tBool ?_
    refine iteB (fun hb4 => ?_) (fun hb4 => ?_)
    · rw [if_pos hb4] at he
      with_reducible refine r_consQ fun QQ hQQ => ?_
      refine r_Assign ?_
      with_reducible refine r_BinOp ?_
      with_reducible refine r_BinOp ?_
      (refine' r_local rfl rfl rfl ?hv ?_; (case hv => walk_at "look"))
      refine r_local rfl rfl rfl rfl ?_
      with_reducible refine r_add fun zt => ?_
      with_reducible refine r_int fun zt => ?_
      refine r_mod (by decide) fun t6 => ?_
      refine r_store rfl rfl rfl ?_
      with_reducible refine leafN (by assumption) ?_
      with_reducible refine r_nil ?_
      with_reducible refine leafN (by assumption) ?_
      with_reducible refine r_nil ?_
      exact TurnF.next l' (.refl _) ⟨rfl, by walk_at "look", _, _, by walk_at "look", he⟩
    · rw [if_neg (by simp only [hb4]; decide)] at he
      with_reducible refine r_nil ?_
      with_reducible refine leafN (by assumption) ?_
      with_reducible refine r_nil ?_
      exact TurnF.next l' (.refl _) ⟨rfl, by walk_at "look", _, _, by walk_at "look", he⟩
  · rintro E'' m' l' ⟨rfl, hb, a, ta, ht, he⟩
    with_reducible refine r_nil ?_
    with_reducible refine leafN (by assumption) ?_
    with_reducible refine r_consQ fun QQ hQQ => ?_
    with_reducible refine r_Ret ?_
    (refine' r_local rfl rfl rfl ?hv ?_; (case hv => walk_at "look"))
    with_reducible refine leafR (by assumption) ?_
    have hlen : vs.length = ns.length := hi.length
    rw [hlen, List.drop_length] at he
    exact qI h he.symm (.refl _)
end
end F2
namespace F3
open F1 F2
section
variable {C : Cx} {m : Loc} {led : Led} {Q : Value → Loc → Led → Prop}
def dropP (mine : List Str) (n : Nat) : List Str := if n = 1 then mine else mine.drop (mine.length - (n - 1))
def underL (mine yours : List Str) : Bool :=
  mine == yours || (yours[0]?.getD Str.empty == Str.ofString "" && (yours[yours.length - 1]?.getD Str.empty != Str.ofString "7" && (decide ((yours.length : Int) ≤ mine.length) && (dropP mine yours.length == yours.drop 1))))
def labels (x : Str) : List Str := Txt.split (Txt.lower x) (Str.ofString ".")
def underF (one other : Str) : Bool := underL (labels one) (labels other)
theorem qB {a b : Bool} {Q : Value → Loc → Led → Prop} {m : Loc} {led l' : Led} (h : Q (.bool a) m led) (e : a = b) (hs : List.Sublist led l') : ∃ l2, List.Sublist l2 l' ∧ Q (.bool b) m l2 := ⟨led, hs, e ▸ h⟩
theorem under_spec {x y : Str} {t u : Tok} (R : Room C 3) (hx : x.length ≤ 100) (hy : y.length ≤ 100) (hlx : (Txt.lower x).length ≤ 100) (hly : (Txt.lower y).length ≤ 100) (kx : ∀ z ∈ labels x, PyData.strOk z = true) (ky : ∀ z ∈ labels y, PyData.strOk z = true) (nx : (labels x).length ≤ 100) (ny : (labels y).length ≤ 100)
    (h : Q (.bool (underF x y)) m led) : T C m led (call (.ref 292) [.str x t, .str y u]) Q := by
  refine' r_callDef (binds := [("one", .str x t), ("other", .str y u)]) (k := 2) ?R ?ho ?hcd ?hbind ?hloc ?hco ?hgen ?hk ?hcell fun A' E' β' L' R' up => ?_
  walk_at "enter"
  with_reducible refine r_consQ fun QQ hQQ => ?_
  refine r_AssignSwap (names := ["mine", "yours"]) ?_
  with_reducible refine r_Tuple ?_
  refine r_argCons ?_
  refine r_MCall ?_
  refine r_MCall ?_
  refine r_local rfl rfl rfl rfl ?_
  with_reducible refine r_gmLower ?_
  refine r_cwB0 ?_
  refine r_lower (by omega) fun t1 => ?_
  with_reducible refine r_gmSplit ?_
  refine r_cwB ?_
  refine r_argCons ?_
  with_reducible refine r_str fun zt => ?_
  with_reducible refine r_argNil ?_
  refine r_split rfl (by unfold sizeLine; omega) fun a1 vs1 hv1 => ?_
  refine r_argCons ?_
  refine r_MCall ?_
  refine r_MCall ?_
  refine r_local rfl rfl rfl rfl ?_
  with_reducible refine r_gmLower ?_
  refine r_cwB0 ?_
  refine r_lower (by omega) fun t2 => ?_
  with_reducible refine r_gmSplit ?_
  refine r_cwB ?_
  refine r_argCons ?_
  with_reducible refine r_str fun zt => ?_
  with_reducible refine r_argNil ?_
  refine r_split rfl (by unfold sizeLine; omega) fun a2 vs2 hv2 => ?_
  with_reducible refine r_argNil ?_
  refine r_newTuple (Nat.le_of_ble_eq_true rfl) ?_; intro za1
  refine r_unpackTup R'.h Has.head rfl ?_
  refine r_asCons (r_bindName ?_)
  refine r_store rfl rfl rfl ?_
  refine r_asCons (r_bindName ?_)
  refine r_store rfl rfl rfl ?_
  refine r_asNil ?_
  with_reducible refine leafN (by assumption) ?_
  with_reducible refine r_consQ fun QQ hQQ => ?_
  have l1 := strsAre_len hv1
  have l2 := strsAre_len hv2
  change vs1.length = (labels x).length at l1
  change vs2.length = (labels y).length at l2
  change StrsAre vs1 (labels x) at hv1
  change StrsAre vs2 (labels y) at hv2
  have hU : underF x y = underL (labels x) (labels y) := rfl
  have hne : labels y ≠ [] := split_ne_nil _ _
  generalize labels x = mine at *
  generalize labels y = yours at *
  obtain ⟨y0, ys, rfl⟩ : ∃ y0 ys, yours = y0 :: ys := by cases yours with | nil => exact absurd rfl hne | cons a b => exact ⟨a, b, rfl⟩
  refine r_If ?_
  with_reducible refine r_isCmp ?_
  refine r_local rfl rfl rfl rfl ?_
  refine r_local rfl rfl rfl rfl ?_
  refine r_eqD (k := 1) R' (.list (by walk_at "has") (.strs hv1)) (.list (by walk_at "has") (.strs hv2)) (shaped_strs kx) (shaped_strs ky) ?_
  rw [eqv_strs]
  with_reducible refine r_tBool ?_
  refine iteB (fun hb => ?_) (fun hb => ?_)
  · with_reducible refine r_consQ fun QQ hQQ => ?_
    with_reducible refine r_Ret ?_
    with_reducible refine r_bool ?_
    with_reducible refine leafR (by assumption) ?_
    with_reducible refine leafR (by assumption) ?_
    exact qB h (by rw [hU, underL, hb]; rfl) (by walk_at "sub")
  with_reducible refine r_nil ?_
  with_reducible refine leafN (by assumption) ?_
  with_reducible refine r_consQ fun QQ hQQ => ?_
  with_reducible refine r_Ret ?_
  with_reducible refine r_And ?_
  with_reducible refine r_Cmp ?_
  with_reducible refine r_Sub ?_
  refine r_local rfl rfl rfl rfl ?_
  with_reducible refine r_int fun zt => ?_
  obtain ⟨t3, h3⟩ := strsAre_get hv2 (i := 0) (y := y0) rfl
  refine r_itemList (by walk_at "has") (by decide) (by decide) h3 ?_
  with_reducible refine r_str fun zt => ?_
  with_reducible refine r_eqS ?_
  with_reducible refine r_tBool ?_
  have e0 : (y0 :: ys)[0]?.getD Str.empty = y0 := rfl
  refine iteB (fun hb2 => ?_) (fun hb2 => ?_)
  rotate_left
  · with_reducible refine leafR (by assumption) ?_
    exact qB h (by rw [hU, underL, hb, e0, hb2]; rfl) (by walk_at "sub")
  with_reducible refine r_And ?_
  with_reducible refine r_Cmp ?_
  with_reducible refine r_Sub ?_
  refine r_local rfl rfl rfl rfl ?_
  with_reducible refine r_Unary ?_
  with_reducible refine r_int fun zt => ?_
  with_reducible refine r_neg fun zt => ?_
  have hl : ((y0 :: ys).length - 1) < (y0 :: ys).length := by simp
  obtain ⟨t4, h4⟩ := strsAre_get hv2 (i := (y0 :: ys).length - 1) (y := (y0 :: ys)[(y0 :: ys).length - 1]) (List.getElem?_eq_getElem hl)
  have e1 : (y0 :: ys)[(y0 :: ys).length - 1]?.getD Str.empty = (y0 :: ys)[(y0 :: ys).length - 1] := by rw [List.getElem?_eq_getElem hl]; rfl
  refine' r_itemListNeg (x := .str ((y0 :: ys)[(y0 :: ys).length - 1]) t4) ?hl ?h0 ?h1 ?h2 ?hx ?_
  case hl => walk_at "has"
  case h0 => decide
  case h1 => rw [l2]; simp only [List.length_cons]; omega
  case h2 => decide
  case hx => rw [show ((-1 : Int) + (vs2.length : Int)).toNat = (y0 :: ys).length - 1 from by rw [l2]; simp only [List.length_cons]; omega]; exact h4
  with_reducible refine r_str fun zt => ?_
  with_reducible refine r_neS ?_
  with_reducible refine r_tBool ?_
  refine iteB (fun hb3 => ?_) (fun hb3 => ?_)
  rotate_left
  · with_reducible refine leafR (by assumption) ?_
    exact qB h (by rw [hU, underL, hb, e0, hb2, e1, hb3]; rfl) (by walk_at "sub")
  with_reducible refine r_And ?_
  with_reducible refine r_Cmp ?_
  refine r_Call ?_
  (refine' r_builtin rfl rfl rfl rfl ?e ?hv ?hn ?_; (case e => k_is); (case hv => boot_by_name); (case hn => decide))
  refine r_cwB ?_
  refine r_argCons ?_
  refine r_local rfl rfl rfl rfl ?_
  with_reducible refine r_argNil ?_
  refine r_lenList (by walk_at "has") (by omega) fun t5 => ?_
  refine r_Call ?_
  (refine' r_builtin rfl rfl rfl rfl ?e ?hv ?hn ?_; (case e => k_is); (case hv => boot_by_name); (case hn => decide))
  refine r_cwB ?_
  refine r_argCons ?_
  refine r_local rfl rfl rfl rfl ?_
  with_reducible refine r_argNil ?_
  refine r_lenList (by walk_at "has") (by omega) fun t6 => ?_
  with_reducible refine r_geI ?_
  with_reducible refine r_tBool ?_
  rw [l1, l2]
  refine iteB (fun hb4 => ?_) (fun hb4 => ?_)
  rotate_left
  · with_reducible refine leafR (by assumption) ?_
    exact qB h (by rw [hU, underL, hb, e0, hb2, e1, hb3, hb4]; rfl) (by walk_at "sub")
  with_reducible refine r_BoolOne ?_
  with_reducible refine r_Cmp ?_
  with_reducible refine r_Sub ?_
  refine r_local rfl rfl rfl rfl ?_
  with_reducible refine r_Slice ?_
  with_reducible refine r_partSome ?_
  with_reducible refine r_BinOp ?_
  with_reducible refine r_int fun zt => ?_
  refine r_Call ?_
  (refine' r_builtin rfl rfl rfl rfl ?e ?hv ?hn ?_; (case e => k_is); (case hv => boot_by_name); (case hn => decide))
  refine r_cwB ?_
  refine r_argCons ?_
  refine r_local rfl rfl rfl rfl ?_
  with_reducible refine r_argNil ?_
  refine r_lenList (by walk_at "has") (by omega) fun t7 => ?_
  with_reducible refine r_sub fun zt => ?_
  with_reducible refine r_partNone ?_
  with_reducible refine r_partNone ?_
  have hs1 : StrsAre (slicePick vs1.toArray (some (1 - (vs2.length : Int))) none none).toList (dropP mine (y0 :: ys).length) := by
    unfold dropP
    split
    · rename_i e
      have : (1 - (vs2.length : Int)) = ((0 : Nat) : Int) := by rw [l2, e]; rfl
      rw [this, slicePick_from']
      simpa using hv1
    · rename_i e
      have h1 : 1 ≤ (y0 :: ys).length - 1 := by simp only [List.length_cons] at e ⊢; omega
      have : (1 - (vs2.length : Int)) = -(((y0 :: ys).length - 1 : Nat) : Int) := by rw [l2]; simp only [List.length_cons]; omega
      rw [this, slicePick_last _ _ h1]
      have := strsAre_drop hv1 (mine.length - ((y0 :: ys).length - 1))
      simpa [l1] using this
  have hs2 : StrsAre (slicePick vs2.toArray (some 1) none none).toList ((y0 :: ys).drop 1) := by
    rw [show (1 : Int) = ((1 : Nat) : Int) from rfl, slicePick_from']
    have := strsAre_drop hv2 1
    simpa using this
  have k1 : ∀ z ∈ dropP mine (y0 :: ys).length, PyData.strOk z = true := by
    intro z hz
    unfold dropP at hz
    split at hz
    · exact kx z hz
    · exact kx z (List.mem_of_mem_drop hz)
  have k2 : ∀ z ∈ (y0 :: ys).drop 1, PyData.strOk z = true := fun z hz => ky z (List.mem_of_mem_drop hz)
  intro a3
  refine r_sliceList (by walk_at "has") (by walk_at "has") (.int _ _) .none (by unfold sizeLine; omega) fun a4 => ?_
  with_reducible refine r_Sub ?_
  refine r_local rfl rfl rfl rfl ?_
  with_reducible refine r_Slice ?_
  with_reducible refine r_partSome ?_
  with_reducible refine r_int fun zt => ?_
  with_reducible refine r_partNone ?_
  with_reducible refine r_partNone ?_
  intro a5
  refine r_sliceList (by walk_at "has") (by walk_at "has") (.int _ _) .none (by unfold sizeLine; omega) fun a6 => ?_
  refine r_eqD (k := 1) R' (.list (by walk_at "has") (.strs hs1)) (.list (by walk_at "has") (.strs hs2)) (shaped_strs k1) (shaped_strs k2) ?_
  rw [eqv_strs]
  with_reducible refine leafR (by assumption) ?_
  exact qB h (by rw [hU, underL, hb, e0, hb2, e1, hb3, hb4]; rfl) (by walk_at "sub")
end
end F3
namespace F4
open F1 F2 F3
section
variable {C : Cx} {m : Loc} {led : Led} {Q : Value → Loc → Led → Prop}
theorem hdn_spec {dot : Bool} {ls : List Nat} {t : Tok} (R : Room C 2) (hl : 1 ≤ ls.length) (h4 : ls.length ≤ 3 ∨ (dot = false ∧ ∃ l, ls = 98 :: l ∧ l.length = 3)) (hc : ∀ c ∈ ls, c = 97 ∨ c = 98 ∨ c = 55)
    (h : Q (.bool (!hitT dot ls)) m led) : T C m led (call (.ref 50) [.str (mkT dot ls) t]) Q := by
  obtain ⟨M, hM, ho⟩ := search_ok hl h4 hc
  refine' r_callDef (binds := [("text", .str (mkT dot ls) t)]) (k := 1) ?R ?ho ?hcd ?hbind ?hloc ?hco ?hgen ?hk ?hcell fun A' E' β' L' R' up => ?_
  walk_at "enter"
  with_reducible refine r_consQ fun QQ hQQ => ?_
  refine r_If ?_
  refine r_isPlain ?_
  refine r_MCall ?_
  (refine' r_global rfl rfl rfl ?e ?_; (case e => k_is))
  refine r_peek (r := (.builtin "re.Pattern.search", [.ref 43])) (by kernel_rfl) ?_
  refine r_cwB ?_
  refine r_argCons ?_
  refine r_local rfl rfl rfl rfl ?_
  with_reducible refine r_argNil ?_
  refine' r_search hM (by decide) ho ?h43 ?e5 ?e6 ?e2 ?h42 ?d42 ?hc ?h1 ?h2
  case h43 => k_is
  case h42 => k_is
  case e5 => rfl
  case e6 => rfl
  case e2 => rfl
  case d42 => rfl
  case hc => kernel_rfl
  case h1 =>
    intro hb a1 a2 vs1 vs2
    refine r_tMatch Has.head ?_
    refine iteB (fun _ => ?_) (fun hb => nomatch hb)
    with_reducible refine r_consQ fun QQ hQQ => ?_
    with_reducible refine r_Ret ?_
    with_reducible refine r_bool ?_
    with_reducible refine leafR (by assumption) ?_
    with_reducible refine leafR (by assumption) ?_
    exact qB h (by rw [hb]; rfl) (by walk_at "sub")
  case h2 =>
    intro hb
    with_reducible refine r_tNone ?_
    refine iteB (fun hb => nomatch hb) (fun _ => ?_)
    with_reducible refine r_nil ?_
    with_reducible refine leafN (by assumption) ?_
    with_reducible refine r_consQ fun QQ hQQ => ?_
    with_reducible refine r_Ret ?_
    with_reducible refine r_bool ?_
    with_reducible refine leafR (by assumption) ?_
    exact qB h (by rw [hb]; rfl) (by walk_at "sub")
end
end F4
section
open F1 F2 F3
theorem sg_inj {a b : Nat} (h : sg a = sg b) : a = b := by
  have := congrArg Str.cps h
  simpa [sg] using this
theorem sg_ne_empty (a : Nat) : sg a ≠ Str.ofString "" := by
  intro h
  have := congrArg (fun s => s.cps.size) h
  have e : (Str.ofString "").cps.size = 0 := by decide +kernel
  simp [sg] at this
  rw [e] at this
  cases this
theorem map_sg_inj : ∀ {l1 l2 : List Nat}, l1.map sg = l2.map sg → l1 = l2
  | [], [], _ => rfl
  | [], _ :: _, h => by simp at h
  | _ :: _, [], h => by simp at h
  | a :: l1, b :: l2, h => by
    simp only [List.map_cons, List.cons.injEq] at h
    rw [sg_inj h.1, map_sg_inj h.2]
theorem map_sg_beq (l1 l2 : List Nat) : (l1.map sg == l2.map sg) = (l1 == l2) := by
  cases h : l1 == l2
  · have : l1 ≠ l2 := by simpa using h
    exact beq_false_of_ne fun e => this (map_sg_inj e)
  · have : l1 = l2 := by simpa using h
    subst this
    exact beq_self_eq_true _
theorem sg7 : Str.ofString "7" = sg 55 := by decide +kernel
theorem underL_P {a b : Bool × List Nat} (ha : a.2 ≠ []) (hb : b.2 ≠ []) : underL (labsOf a.1 a.2) (labsOf b.1 b.2) = underP a b := by
  obtain ⟨d1, l1⟩ := a
  obtain ⟨d2, l2⟩ := b
  simp only at ha hb
  obtain ⟨c1, r1, rfl⟩ := List.exists_cons_of_ne_nil ha
  obtain ⟨c2, r2, rfl⟩ := List.exists_cons_of_ne_nil hb
  have heq : (labsOf d1 (c1 :: r1) == labsOf d2 (c2 :: r2)) = (d1 == d2 && (c1 :: r1) == (c2 :: r2)) := by
    cases d1 <;> cases d2
    · exact map_sg_beq (c1 :: r1) (c2 :: r2)
    · show (sg c1 :: r1.map sg == Str.ofString "" :: (c2 :: r2).map sg) = false
      exact beq_false_of_ne fun e => sg_ne_empty _ (List.cons.inj e).1
    · show (Str.ofString "" :: (c1 :: r1).map sg == sg c2 :: r2.map sg) = false
      exact beq_false_of_ne fun e => sg_ne_empty _ (List.cons.inj e).1.symm
    · show (Str.ofString "" :: (c1 :: r1).map sg == Str.ofString "" :: (c2 :: r2).map sg) = ((c1 :: r1) == (c2 :: r2))
      rw [List.cons_beq_cons, beq_self_eq_true, Bool.true_and, map_sg_beq]
  unfold underL underP
  rw [heq]
  simp only
  cases d2 with
  | false =>
    have h0 : ((labsOf false (c2 :: r2))[0]?.getD Str.empty == Str.ofString "") = false := by
      show (sg c2 == Str.ofString "") = false
      exact beq_false_of_ne (sg_ne_empty _)
    rw [h0]
    simp
  | true =>
    have h0 : ((labsOf true (c2 :: r2))[0]?.getD Str.empty == Str.ofString "") = true := by
      show (Str.ofString "" == Str.ofString "") = true
      exact beq_self_eq_true _
    have hlen : (labsOf true (c2 :: r2)).length = (c2 :: r2).length + 1 := by simp [labsOf]
    have hlen1 : (labsOf d1 (c1 :: r1)).length = (c1 :: r1).length + (if d1 then 1 else 0) := by cases d1 <;> simp [labsOf]
    have hlast : ((labsOf true (c2 :: r2))[(labsOf true (c2 :: r2)).length - 1]?.getD Str.empty != Str.ofString "7") = ((c2 :: r2).getLast? != some 55) := by
      rw [hlen]
      have e1 : (labsOf true (c2 :: r2))[(c2 :: r2).length + 1 - 1]? = ((c2 :: r2).getLast?).map sg := by
        show (Str.ofString "" :: (c2 :: r2).map sg)[(c2 :: r2).length]? = _
        rw [show (c2 :: r2).length = r2.length + 1 from rfl, List.getElem?_cons_succ, List.getElem?_map, List.getLast?_eq_getElem?]
        rfl
      rw [e1]
      obtain ⟨z, hz⟩ : ∃ z, (c2 :: r2).getLast? = some z := ⟨_, List.getLast?_eq_some_getLast (by simp)⟩
      rw [hz, sg7]
      show (sg z != sg 55) = (some z != some 55)
      by_cases h : z = 55
      · subst h; simp
      · have : sg z ≠ sg 55 := fun e => h (sg_inj e)
        rw [bne_iff_ne.mpr this, bne_iff_ne.mpr (by simpa using h)]
    rw [h0, hlast]
    have hdec : decide (((labsOf true (c2 :: r2)).length : Int) ≤ (labsOf d1 (c1 :: r1)).length) = decide ((c2 :: r2).length + 1 ≤ (c1 :: r1).length + (if d1 then 1 else 0)) := by
      rw [hlen, hlen1]
      congr 1
      exact propext ⟨fun h => by exact_mod_cast h, fun h => by exact_mod_cast h⟩
    rw [hdec]
    by_cases hle : (c2 :: r2).length + 1 ≤ (c1 :: r1).length + (if d1 then 1 else 0)
    · have hdr : (dropP (labsOf d1 (c1 :: r1)) (labsOf true (c2 :: r2)).length == (labsOf true (c2 :: r2)).drop 1) = ((c1 :: r1).drop ((c1 :: r1).length - (c2 :: r2).length) == (c2 :: r2)) := by
        have e2 : (labsOf true (c2 :: r2)).drop 1 = (c2 :: r2).map sg := rfl
        rw [e2]
        unfold dropP
        rw [if_neg (by rw [hlen]; simp), hlen, hlen1]
        rw [← map_sg_beq, List.map_drop]
        congr 1
        cases d1 with
        | false => rfl
        | true =>
          show (Str.ofString "" :: (c1 :: r1).map sg).drop ((c1 :: r1).length + 1 - ((c2 :: r2).length + 1 - 1)) = _
          simp only [if_true] at hle
          rw [show (c1 :: r1).length + 1 - ((c2 :: r2).length + 1 - 1) = ((c1 :: r1).length - (c2 :: r2).length) + 1 from by omega]
          rfl
      rw [hdr]
      try simp
    · rw [decide_eq_false hle]
      try simp
end
namespace F5
open F1 F2 F3 F4
def rawC (c : Nat) : Prop := c = 97 ∨ c = 65 ∨ c = 98 ∨ c = 55
def TxOk (d : Bool) (l : List Nat) : Prop := (∀ c ∈ l, rawC c) ∧ ((1 ≤ l.length ∧ l.length ≤ 3) ∨ (d = false ∧ ∃ r, l = 98 :: r ∧ r.length = 3))
theorem mem_raws : ∀ {n : Nat} {l : List Nat}, l.length = n → (∀ c ∈ l, rawC c) → l ∈ raws n
  | 0, [], _, _ => by simp [raws]
  | n + 1, c :: l, hl, h => by
    have ih := mem_raws (n := n) (l := l) (by simpa using hl) (fun x hx => h x (by simp [hx]))
    simp only [raws, List.mem_flatMap]
    refine ⟨l, ih, ?_⟩
    rcases h c (by simp) with rfl | rfl | rfl | rfl <;> simp
theorem low_of {c : Nat} (h : rawC c) : low c = 97 ∨ low c = 98 ∨ low c = 55 := by
  rcases h with rfl | rfl | rfl | rfl <;> simp [low]
theorem lows_of {l : List Nat} (h : ∀ c ∈ l, rawC c) : ∀ c ∈ l.map low, c = 97 ∨ c = 98 ∨ c = 55 := by
  intro c hc
  obtain ⟨x, hx, rfl⟩ := List.mem_map.mp hc
  exact low_of (h x hx)
theorem TxOk.cases {d : Bool} {l : List Nat} (h : TxOk d l) : l.length = 1 ∨ l.length = 2 ∨ l.length = 3 ∨ (d = false ∧ ∃ r, l = 98 :: r ∧ r.length = 3) := by
  rcases h.2 with ⟨h1, h2⟩ | h2
  · have : l.length = 1 ∨ l.length = 2 ∨ l.length = 3 := by omega
    rcases this with e | e | e
    · exact .inl e
    · exact .inr (.inl e)
    · exact .inr (.inr (.inl e))
  · exact .inr (.inr (.inr h2))
theorem TxOk.ne {d : Bool} {l : List Nat} (h : TxOk d l) : l ≠ [] := by
  rcases h.2 with ⟨h1, _⟩ | ⟨_, r, rfl, _⟩
  · intro e; subst e; simp at h1
  · simp
theorem TxOk.len {d : Bool} {l : List Nat} (h : TxOk d l) : l.length ≤ 4 := by
  rcases h.2 with ⟨_, h1⟩ | ⟨_, r, rfl, h1⟩
  · omega
  · simp [h1]
theorem lower_mkT {d : Bool} {l : List Nat} (h : TxOk d l) : Txt.lower (mkT d l) = mkT d (l.map low) := by
  have key : lowOk d l = true := by
    rcases h.cases with e | e | e | ⟨rfl, r, rfl, e⟩
    · have := List.all_eq_true.mp low1 l (mem_raws e h.1)
      simp only [Bool.and_eq_true] at this
      cases d
      · exact this.2
      · exact this.1
    · have := List.all_eq_true.mp low2 l (mem_raws e h.1)
      simp only [Bool.and_eq_true] at this
      cases d
      · exact this.2
      · exact this.1
    · have := List.all_eq_true.mp low3 l (mem_raws e h.1)
      simp only [Bool.and_eq_true] at this
      cases d
      · exact this.1.2
      · exact this.1.1
    · have := List.all_eq_true.mp low3 r (mem_raws e fun c hc => h.1 c (by simp [hc]))
      simp only [Bool.and_eq_true] at this
      exact this.2
  exact beq_iff_eq.mp key
theorem split_mkT {d : Bool} {l : List Nat} (h : TxOk d l) : Txt.split (mkT d (l.map low)) (Str.ofString ".") = labsOf d (l.map low) := by
  have key : splOk d (l.map low) = true := by
    rcases h.cases with e | e | e | ⟨rfl, r, rfl, e⟩
    · have := List.all_eq_true.mp spl1 (l.map low) (mem_lows (by simpa using e) (lows_of h.1))
      simp only [Bool.and_eq_true] at this
      cases d
      · exact this.2
      · exact this.1
    · have := List.all_eq_true.mp spl2 (l.map low) (mem_lows (by simpa using e) (lows_of h.1))
      simp only [Bool.and_eq_true] at this
      cases d
      · exact this.2
      · exact this.1
    · have := List.all_eq_true.mp spl3 (l.map low) (mem_lows (by simpa using e) (lows_of h.1))
      simp only [Bool.and_eq_true] at this
      cases d
      · exact this.1.2
      · exact this.1.1
    · have := List.all_eq_true.mp spl3 (r.map low) (mem_lows (by simpa using e) (lows_of fun c hc => h.1 c (by simp [hc])))
      simp only [Bool.and_eq_true] at this
      exact this.2
  exact beq_iff_eq.mp key
theorem labels_mkT {d : Bool} {l : List Nat} (h : TxOk d l) : labels (mkT d l) = labsOf d (l.map low) := by
  unfold labels
  rw [lower_mkT h, split_mkT h]
theorem intersperse_len (s : Nat) : ∀ l : List Nat, (l.intersperse s).length = 2 * l.length - 1
  | [] => rfl
  | [a] => rfl
  | a :: b :: l => by
    have := intersperse_len s (b :: l)
    simp only [List.intersperse, List.length_cons] at this ⊢
    omega
theorem mkT_len (d : Bool) (l : List Nat) : (mkT d l).length ≤ 2 * l.length + 1 := by
  show ((if d then [46] else []) ++ l.intersperse 46).toArray.size ≤ _
  rw [List.size_toArray, List.length_append, intersperse_len]
  cases d <;> simp <;> omega
theorem strOk_labs {d : Bool} {l : List Nat} (h : ∀ c ∈ l, c = 97 ∨ c = 98 ∨ c = 55) : ∀ z ∈ labsOf d l, PyData.strOk z = true := by
  intro z hz
  unfold labsOf at hz
  rcases List.mem_append.mp hz with hz | hz
  · cases d
    · cases hz
    · simp at hz; subst hz; decide +kernel
  · obtain ⟨c, hc, rfl⟩ := List.mem_map.mp hz
    rcases h c hc with rfl | rfl | rfl <;> decide +kernel
theorem labs_len (d : Bool) (l : List Nat) : (labsOf d l).length ≤ l.length + 1 := by
  cases d <;> simp [labsOf]
abbrev P1 := Bool × List Nat
abbrev tx (a : P1) : Str := mkT a.1 a.2
abbrev lw (a : P1) : P1 := (a.1, a.2.map low)
theorem mem_lowT {a : P1} (h : TxOk a.1 a.2) : lw a ∈ lowT := by
  obtain ⟨d, l⟩ := a
  unfold lowT
  rcases h.cases with e | e | e | ⟨he, r, hr, e⟩
  · refine List.mem_append_left _ (List.mem_flatMap.mpr ⟨l.map low, List.mem_append_left _ (List.mem_append_left _ (mem_lows (by simpa using e) (lows_of h.1))), ?_⟩)
    cases d <;> simp [lw]
  · refine List.mem_append_left _ (List.mem_flatMap.mpr ⟨l.map low, List.mem_append_left _ (List.mem_append_right _ (mem_lows (by simpa using e) (lows_of h.1))), ?_⟩)
    cases d <;> simp [lw]
  · refine List.mem_append_left _ (List.mem_flatMap.mpr ⟨l.map low, List.mem_append_right _ (mem_lows (by simpa using e) (lows_of h.1)), ?_⟩)
    cases d <;> simp [lw]
  · simp only at he hr
    subst he hr
    refine List.mem_append_right _ (List.mem_map.mpr ⟨r.map low, mem_lows (by simpa using e) (lows_of fun c hc => h.1 c (by simp [hc])), ?_⟩)
    simp [lw, low]
section
variable {C : Cx} {m : Loc} {led : Led} {Q : Value → Loc → Led → Prop}
theorem under_spec2 {a b : P1} {t u : Tok} (R : Room C 3) (ha : TxOk a.1 a.2) (hb : TxOk b.1 b.2) (h : Q (.bool (underP (lw a) (lw b))) m led) : T C m led (call (.ref 292) [.str (tx a) t, .str (tx b) u]) Q := by
  have la := ha.len
  have lb := hb.len
  have e : underF (tx a) (tx b) = underP (lw a) (lw b) := by
    unfold underF
    rw [labels_mkT ha, labels_mkT hb]
    exact underL_P (a := lw a) (b := lw b) (by simpa using ha.ne) (by simpa using hb.ne)
  have k1 := mkT_len a.1 a.2
  have k2 := mkT_len b.1 b.2
  refine under_spec R (by show (mkT a.1 a.2).length ≤ 100; omega) (by show (mkT b.1 b.2).length ≤ 100; omega) ?_ ?_ ?_ ?_ ?_ ?_ (by rw [e]; exact h)
  · show (Txt.lower (mkT a.1 a.2)).length ≤ 100
    rw [lower_mkT ha]; have := mkT_len a.1 (a.2.map low); simp only [List.length_map] at this; omega
  · show (Txt.lower (mkT b.1 b.2)).length ≤ 100
    rw [lower_mkT hb]; have := mkT_len b.1 (b.2.map low); simp only [List.length_map] at this; omega
  · show ∀ z ∈ labels (mkT a.1 a.2), _
    rw [labels_mkT ha]; exact strOk_labs (lows_of ha.1)
  · show ∀ z ∈ labels (mkT b.1 b.2), _
    rw [labels_mkT hb]; exact strOk_labs (lows_of hb.1)
  · show (labels (mkT a.1 a.2)).length ≤ 100
    rw [labels_mkT ha]; have := labs_len a.1 (a.2.map low); simp only [List.length_map] at this; omega
  · show (labels (mkT b.1 b.2)).length ≤ 100
    rw [labels_mkT hb]; have := labs_len b.1 (b.2.map low); simp only [List.length_map] at this; omega
theorem start_all : (lowT.all fun a => Txt.startswith (mkT a.1 a.2) (Str.ofString ".") == a.1) = true := by decide +kernel
theorem start_mkT {a : P1} (h : TxOk a.1 a.2) : Txt.startswith (mkT a.1 (a.2.map low)) (Str.ofString ".") = a.1 := beq_iff_eq.mp (List.all_eq_true.mp start_all (lw a) (mem_lowT h))
theorem pair_mkT {a b : P1} (ha : TxOk a.1 a.2) (hb : TxOk b.1 b.2) : udmL (mkT a.1 (a.2.map low)) (mkT b.1 (b.2.map low)) (hitT a.1 (a.2.map low)) (hitT b.1 (b.2.map low)) b.1 = underP (lw a) (lw b) :=
  beq_iff_eq.mp (List.all_eq_true.mp (List.all_eq_true.mp pairs_all (lw b) (mem_lowT hb)) (lw a) (mem_lowT ha))
theorem TxOk.h4 {d : Bool} {l : List Nat} (h : TxOk d l) : (l.map low).length ≤ 3 ∨ (d = false ∧ ∃ r, l.map low = 98 :: r ∧ r.length = 3) := by
  rcases h.2 with ⟨_, h2⟩ | ⟨h1, r, rfl, h3⟩
  · exact .inl (by simpa using h2)
  · exact .inr ⟨h1, r.map low, by simp [low], by simpa using h3⟩
theorem TxOk.h1 {d : Bool} {l : List Nat} (h : TxOk d l) : 1 ≤ (l.map low).length := by
  have := List.length_pos_iff.mpr h.ne
  rw [List.length_map]; exact this
theorem udm_spec {a b : P1} {t u : Tok} (R : Room C 3) (ha : TxOk a.1 a.2) (hb : TxOk b.1 b.2) (h : Q (.bool (underP (lw a) (lw b))) m led) : T C m led (call (.ref 57) [.str (tx a) t, .str (tx b) u]) Q := by
  have la := ha.len
  have lb := hb.len
  have k1 := mkT_len a.1 a.2
  have k2 := mkT_len b.1 b.2
  refine' r_callDef (binds := [("A", .str (tx a) t), ("B", .str (tx b) u)]) (k := 2) ?R ?ho ?hcd ?hbind ?hloc ?hco ?hgen ?hk ?hcell fun A' E' β' L' R' up => ?_
  walk_at "enter"
  with_reducible refine r_consQ fun QQ hQQ => ?_
  refine r_Assign ?_
  refine r_MCall ?_
  refine r_local rfl rfl rfl rfl ?_
  with_reducible refine r_gmLower ?_
  refine r_cwB0 ?_
  refine r_lower (by show (mkT a.1 a.2).length ≤ _; omega) fun t1 => ?_
  rw [lower_mkT ha]
  refine r_store rfl rfl rfl ?_
  with_reducible refine leafN (by assumption) ?_
  with_reducible refine r_consQ fun QQ hQQ => ?_
  refine r_Assign ?_
  refine r_MCall ?_
  refine r_local rfl rfl rfl rfl ?_
  with_reducible refine r_gmLower ?_
  refine r_cwB0 ?_
  refine r_lower (by show (mkT b.1 b.2).length ≤ _; omega) fun t2 => ?_
  rw [lower_mkT hb]
  refine r_store rfl rfl rfl ?_
  with_reducible refine leafN (by assumption) ?_
  with_reducible refine r_consQ fun QQ hQQ => ?_
  have key := pair_mkT ha hb
  unfold udmL at key
  refine r_If (Tst.run (B1 := !(!hitT a.1 (a.2.map low) && !hitT b.1 (b.2.map low))) ?cc ?_)
  case cc =>
    refine Tst.not (Tst.and ?_ fun _ => Tst.and1 ?_)
    · refine r_isPlain ?_
      refine r_Call ?_
      (refine' r_global rfl rfl rfl ?e ?_; (case e => k_is))
      refine' r_cwK ?hf ?_; (case hf => k_is)
      refine r_argCons ?_
      refine r_local rfl rfl rfl rfl ?_
      with_reducible refine r_argNil ?_
      refine hdn_spec (by walk_at "room") ha.h1 ha.h4 (lows_of ha.1) ?_
      with_reducible refine r_tBool ?_
      exact ⟨rfl, rfl, .refl _⟩
    · refine r_isPlain ?_
      refine r_Call ?_
      (refine' r_global rfl rfl rfl ?e ?_; (case e => k_is))
      refine' r_cwK ?hf ?_; (case hf => k_is)
      refine r_argCons ?_
      refine r_local rfl rfl rfl rfl ?_
      with_reducible refine r_argNil ?_
      refine hdn_spec (by walk_at "room") hb.h1 hb.h4 (lows_of hb.1) ?_
      with_reducible refine r_tBool ?_
      exact ⟨rfl, rfl, .refl _⟩
  refine iteB (fun hb1 => ?_) (fun hb1 => ?_)
  · rw [if_pos hb1] at key
    refine r_consQ fun QQ hQQ => r_If ?_
    with_reducible refine r_isCmp ?_
    refine r_local rfl rfl rfl rfl ?_
    refine r_local rfl rfl rfl rfl ?_
    with_reducible refine r_eqS ?_
    with_reducible refine r_tBool ?_
    refine iteB (fun hb2 => ?_) (fun hb2 => ?_)
    · with_reducible refine r_consQ fun QQ hQQ => ?_
      with_reducible refine r_Ret ?_
      with_reducible refine r_bool ?_
      with_reducible refine leafR (by assumption) ?_
      with_reducible refine leafR (by assumption) ?_
      with_reducible refine leafR (by assumption) ?_
      exact qB h (by rw [← key, hb2]) (.refl _)
    · with_reducible refine r_nil ?_
      with_reducible refine leafN (by assumption) ?_
      with_reducible refine r_consQ fun QQ hQQ => ?_
      with_reducible refine r_Ret ?_
      with_reducible refine r_bool ?_
      with_reducible refine leafR (by assumption) ?_
      with_reducible refine leafR (by assumption) ?_
      exact qB h (by rw [← key, hb2]) (.refl _)
  rw [if_neg (by rw [hb1]; decide)] at key
  with_reducible refine r_nil ?_
  with_reducible refine leafN (by assumption) ?_
  with_reducible refine r_consQ fun QQ hQQ => ?_
  refine r_Assign ?_
  refine r_MCall ?_
  refine r_local rfl rfl rfl rfl ?_
  with_reducible refine r_gmStarts ?_
  refine r_cwB ?_
  refine r_argCons ?_
  with_reducible refine r_str fun zt => ?_
  with_reducible refine r_argNil ?_
  refine r_startswith ?_
  rw [start_mkT hb]
  refine r_store rfl rfl rfl ?_
  with_reducible refine leafN (by assumption) ?_
  with_reducible refine r_consQ fun QQ hQQ => ?_
  refine r_If (Tst.run (B1 := b.1 && Txt.endswith (mkT a.1 (a.2.map low)) (mkT b.1 (b.2.map low))) ?cc ?_)
  case cc =>
    refine Tst.and ?_ fun _ => Tst.and1 ?_
    · refine r_isPlain ?_
      refine r_local rfl rfl rfl rfl ?_
      with_reducible refine r_tBool ?_
      exact ⟨rfl, rfl, .refl _⟩
    · refine r_isPlain ?_
      refine r_MCall ?_
      refine r_local rfl rfl rfl rfl ?_
      with_reducible refine r_gmEnds ?_
      refine r_cwB ?_
      refine r_argCons ?_
      refine r_local rfl rfl rfl rfl ?_
      with_reducible refine r_argNil ?_
      refine r_endswith ?_
      with_reducible refine r_tBool ?_
      exact ⟨rfl, rfl, .refl _⟩
  refine iteB (fun hb2 => ?_) (fun hb2 => ?_)
  · rw [if_pos hb2] at key
    with_reducible refine r_consQ fun QQ hQQ => ?_
    with_reducible refine r_Ret ?_
    with_reducible refine r_bool ?_
    with_reducible refine leafR (by assumption) ?_
    with_reducible refine leafR (by assumption) ?_
    exact qB h key.symm (.refl _)
  rw [if_neg (by rw [hb2]; decide)] at key
  with_reducible refine r_nil ?_
  with_reducible refine leafN (by assumption) ?_
  with_reducible refine r_consQ fun QQ hQQ => ?_
  refine r_If (Tst.run (B1 := !b.1 && mkT a.1 (a.2.map low) == mkT b.1 (b.2.map low)) ?cc ?_)
  case cc => (refine Tst.and ?_ (fun _ => ?_); refine Tst.not ?_; refine r_isPlain ?_; refine r_local rfl rfl rfl rfl ?_; (with_reducible refine r_tBool ?_); (refine ⟨?_, ?_, ?_⟩ <;> first | rfl | walk_at "sub"); refine Tst.and1 ?_; (with_reducible refine r_isCmp ?_); refine r_local rfl rfl rfl rfl ?_; refine r_local rfl rfl rfl rfl ?_; (with_reducible refine r_eqS ?_); (with_reducible refine r_tBool ?_); (refine ⟨?_, ?_, ?_⟩ <;> first | rfl | walk_at "sub"))
  refine iteB (fun hb3 => ?_) (fun hb3 => ?_)
  · rw [if_pos hb3] at key
    with_reducible refine r_consQ fun QQ hQQ => ?_
    with_reducible refine r_Ret ?_
    with_reducible refine r_bool ?_
    with_reducible refine leafR (by assumption) ?_
    with_reducible refine leafR (by assumption) ?_
    exact qB h key.symm (.refl _)
  · rw [if_neg (by rw [hb3]; decide)] at key
    with_reducible refine r_nil ?_
    with_reducible refine leafN (by assumption) ?_
    with_reducible refine r_consQ fun QQ hQQ => ?_
    with_reducible refine r_Ret ?_
    with_reducible refine r_bool ?_
    with_reducible refine leafR (by assumption) ?_
    exact qB h key.symm (.refl _)
end
end F5
namespace FM
open F1 F2
section
def tupAt (K : Frag) (v : Value) : Option (List Value) := match v with
  | .ref a => (match K.lookup a with
    | some ⟨.type c, none, .seq vs n, sl⟩ => if c == "tuple" && n == 0 && sl.size == 0 then some vs.toList else none
    | _ => none)
  | _ => none
theorem tupAt_some {K : Frag} {v : Value} {vs : List Value} (h : tupAt K v = some vs) : ∃ a, v = .ref a ∧ K.lookup a = some (tupO vs) := by
  unfold tupAt at h
  split at h
  · rename_i a
    refine ⟨a, rfl, ?_⟩
    split at h
    · rename_i c ws n sl e
      split at h
      · rename_i hc
        simp only [Bool.and_eq_true, beq_iff_eq] at hc
        obtain ⟨⟨rfl, rfl⟩, h3⟩ := hc
        injection h with h
        subst h
        have : sl = #[] := by simpa using h3
        rw [e, this]
      · cases h
    · cases h
  · cases h
def mapO {α β : Type} (f : α → Option β) : List α → Option (List β)
  | [] => some []
  | a :: r => match f a, mapO f r with
    | some b, some bs => some (b :: bs)
    | _, _ => none
theorem mapO_len {α β : Type} {f : α → Option β} : ∀ {l : List α} {r : List β}, mapO f l = some r → l.length = r.length
  | [], r, h => by simp [mapO] at h; subst h; rfl
  | a :: l, r, h => by
    unfold mapO at h
    split at h
    · rename_i b bs h1 h2
      injection h with h; subst h
      simp [mapO_len h2]
    · cases h
theorem mapO_get {α β : Type} {f : α → Option β} : ∀ {l : List α} {r : List β}, mapO f l = some r → ∀ {i : Nat} {a : α}, l[i]? = some a → ∃ b, r[i]? = some b ∧ f a = some b
  | [], r, h, i, a, e => by simp at e
  | x :: l, r, h, i, a, e => by
    unfold mapO at h
    split at h
    · rename_i b bs h1 h2
      injection h with h; subst h
      cases i with
      | zero => simp at e; subst e; exact ⟨b, by simp, h1⟩
      | succ i => simp at e; simpa using mapO_get h2 e
    · cases h
def pairIn (K : Frag) (v : Value) : Option (Int × Str) := match tupAt K v with
  | some [.int b _, .str c _] => some (b, c)
  | _ => none
theorem pairIn_some {K : Frag} {v : Value} {b : Int} {c : Str} (h : pairIn K v = some (b, c)) : ∃ a t u, v = .ref a ∧ K.lookup a = some (tupO [.int b t, .str c u]) := by
  unfold pairIn at h
  split at h
  · rename_i b' t c' u e
    obtain ⟨a, rfl, ha⟩ := tupAt_some e
    injection h with h; injection h with h1 h2; subst h1 h2
    exact ⟨a, t, u, rfl, ha⟩
  · cases h
def rowIn (K : Frag) (v : Value) : Option (List (Int × Str)) := match tupAt K v with
  | some ps => mapO (pairIn K) ps
  | none => none
def tblIn (K : Frag) (v : Value) : Option (List (List (Int × Str))) := match tupAt K v with
  | some ps => mapO (rowIn K) ps
  | none => none
theorem rowIn_some {K : Frag} {v : Value} {r : List (Int × Str)} (h : rowIn K v = some r) : ∃ a vs, v = .ref a ∧ K.lookup a = some (tupO vs) ∧ mapO (pairIn K) vs = some r := by
  unfold rowIn at h
  split at h
  · rename_i ps e
    obtain ⟨a, e1, e2⟩ := tupAt_some e
    exact ⟨a, ps, e1, e2, h⟩
  · cases h
theorem tblIn_some {K : Frag} {v : Value} {r : List (List (Int × Str))} (h : tblIn K v = some r) : ∃ a vs, v = .ref a ∧ K.lookup a = some (tupO vs) ∧ mapO (rowIn K) vs = some r := by
  unfold tblIn at h
  split at h
  · rename_i ps e
    obtain ⟨a, e1, e2⟩ := tupAt_some e
    exact ⟨a, ps, e1, e2, h⟩
  · cases h
def TBL : List (List (Int × Str)) := [[(40960, "l"), (49152, "s"), (32768, "-"), (24576, "b"), (16384, "d"), (8192, "c"), (4096, "p")], [(256, "r")], [(128, "w")], [(2112, "s"), (2048, "S"), (64, "x")],
  [(32, "r")], [(16, "w")], [(1032, "s"), (1024, "S"), (8, "x")], [(4, "r")], [(2, "w")], [(513, "t"), (512, "T"), (1, "x")]]
theorem tbl_in (p : Params) : tblIn (hd.heap_1 p) (.ref 273) = some TBL := by kernel_rfl
end
section
variable {C : Cx} {m : Loc} {led : Led} {env : Env} {Q : Value → Loc → Led → Prop}
def hitM (mode : Int) (i : Nat) (p : Int × Str) : Bool := if i = 0 then Builtin.bitAnd mode 61440 == p.1 else Builtin.bitAnd mode p.1 == p.1
def fmRow (mode : Int) (i : Nat) (row : List (Int × Str)) : Str := match row.find? (hitM mode i) with
  | some p => p.2
  | none => if i = 0 then "?" else "-"
def fmL (mode : Int) : List Str := TBL.mapIdx (fmRow mode)
def fmF (mode : Int) : Str := Txt.join "" (fmL mode)
theorem find_take {α : Type} {f : α → Bool} : ∀ {l : List α} {j : Nat} {q : α}, l[j]? = some q → (∀ p ∈ l.take j, f p = false) → f q = true → l.find? f = some q
  | [], j, q, hq, _, _ => by simp at hq
  | a :: l, 0, q, hq, hp, hf => by simp at hq; subst hq; simp [List.find?_cons, hf]
  | a :: l, j + 1, q, hq, hp, hf => by
    simp at hq
    have ha := hp a (by simp)
    rw [List.find?_cons, ha]
    exact find_take hq (fun p hm => hp p (by simp [hm])) hf
theorem fmRow_len {mode : Int} {i : Nat} {row : List (Int × Str)} (h : ∀ p ∈ row, p.2.length = 1) : (fmRow mode i row).length = 1 := by
  unfold fmRow
  split
  · rename_i p e; exact h p (List.mem_of_find?_eq_some e)
  · split <;> rfl
theorem joinOk_ones : ∀ (l : List Str), (∀ y ∈ l, y.length = 1) → l.length ≤ 10 → JoinOk "" l = true := by
  intro l h hl
  have key : ∀ (l : List Str) (k : Nat), (∀ y ∈ l, y.length = 1) → l.foldl (fun x y => x + y.length + (("" : String) : Str).length) k = k + l.length := by
    intro l
    induction l with
    | nil => intro k _; simp
    | cons y l ih =>
      intro k hy
      have e1 := hy y (by simp)
      rw [List.foldl_cons, ih _ (fun z hz => hy z (by simp [hz])), e1, List.length_cons]
      show k + 1 + 0 + l.length = _
      omega
  unfold JoinOk
  rw [← Array.foldl_toList, List.toList_toArray, key l 0 h]
  simp only [PySem.Builtin.Str.tooLong, PySem.sizeLine_eq, Bool.not_eq_true', decide_eq_false_iff_not]
  omega
theorem fm_joinOk (mode : Int) : JoinOk "" (fmL mode) = true := by
  refine joinOk_ones _ (fun y hy => ?_) (by simp [fmL, TBL])
  unfold fmL at hy
  rw [List.mem_mapIdx] at hy
  obtain ⟨i, hi, rfl⟩ := hy
  refine fmRow_len fun p hp => ?_
  have : ∀ row ∈ TBL, ∀ p ∈ row, p.2.length = 1 := by decide
  exact this _ (List.getElem_mem hi) p hp
theorem filemode_spec {mode : Int} {t : Tok} (R : Room C 3) (h : ∀ t', Q (.str (fmF mode) t') m led) : T C m led (call (.ref 280) [.int mode t]) Q := by
  refine' r_callDef (binds := [("mode", .int mode t)]) (k := 2) ?R ?ho ?hcd ?hbind ?hloc ?hco ?hgen ?hk ?hcell fun A' E' β' L' R' up => ?_
  walk_at "enter"
  with_reducible refine r_consQ fun QQ hQQ => ?_
  refine r_Assign ?_
  with_reducible refine r_List ?_
  with_reducible refine r_argNil ?_
  refine r_newList (Nat.le_of_ble_eq_true rfl) ?_; intro a
  refine r_store rfl rfl rfl ?_
  with_reducible refine leafN (by assumption) ?_
  with_reducible refine r_consQ fun QQ hQQ => ?_
  refine r_For ?_
  refine r_Call ?_
  (refine' r_builtin rfl rfl rfl rfl ?e ?hv ?hn ?_; (case e => k_is); (case hv => boot_by_name); (case hn => decide))
  refine r_cwT ?_
  refine r_argCons ?_
  (refine' r_global rfl rfl rfl ?e ?_; (case e => k_is))
  with_reducible refine r_argNil ?_
  refine r_statics fun st => ?_
  obtain ⟨a0, vs, ea, hk0, tb⟩ := tblIn_some (tbl_in C.W.w.params)
  cases ea
  have hlen := mapO_len tb
  have hT : ∀ (l : Led) (E'' : Value → Shared → Prop), Has (Cx.e { W := C.W, A := A', E := E', β := β', L := L' } E'') l 273 (tupO vs) := fun l E'' => .inr (st _ _ hk0)
  have hlm : (fmL mode).length = 10 := by simp [fmL, TBL]
  refine r_enumTup (.inr (st _ _ hk0)) fun e it hne => ?_
  refine r_iterEnum Has.head ?_
  refine ⟨fun k m' l' => Ex5 fun (i : Nat) (old : Value) (oi : Obj) (ws : List Value) (n : Nat) => A8 (k = 10 - i) (i ≤ 10) (l' = (e, enO .none it i old) :: (it, oi) :: (a, listO ws n) :: led) (TiO 273 i oi) (m' "mode" = some (.int mode t)) (m' "perm" = some (.ref a)) (StrsAre ws ((fmL mode).take i)) (ws.length = i), 10, ⟨0, .none, _, [], 0, rfl, by omega, rfl, ⟨rfl, rfl⟩, rfl, rfl, by simpa using StrsAre.nil, rfl⟩, ?_⟩
  rintro E'' k m' l' ⟨i, old, oi, ws, n, rfl, hi, rfl, hoi, hm1, hm2, hws, hwl⟩
  by_cases hi10 : i < 10
  · obtain ⟨x, hx⟩ : ∃ x, vs[i]? = some x := ⟨vs[i]'(by rw [hlen]; exact hi10), List.getElem?_eq_getElem _⟩
    obtain ⟨row, hrow, hrx⟩ := mapO_get tb hx
    obtain ⟨ra, ps, rfl, hkr, hps⟩ := rowIn_some hrx
    have hRw : ∀ (l : Led) (E'' : Value → Shared → Prop), Has (Cx.e { W := C.W, A := A', E := E', β := β', L := L' } E'') l ra (tupO ps) := fun l E'' => .inr (st _ _ hkr)
    refine r_nextEnum hoi (hT _ _) hx hne fun b tk oi' hoi' => ?_
    refine r_letEnum (pre := [_]) ?_
    refine r_asTup ?_
    refine r_unpackTup R'.h Has.head rfl ?_
    refine r_drop (led' := (e, enO .none it (i + 1) (.ref ra)) :: (it, oi') :: (a, listO ws n) :: led) ?_ (by walk_at "sub")
    refine r_asCons (r_asName ?_)
    refine r_store rfl rfl rfl ?_
    refine r_asCons (r_asName ?_)
    refine r_store rfl rfl rfl ?_
    refine r_asNil ?_
    with_reducible refine r_consQ fun QQ hQQ => ?_
    have hE : (fmL mode)[i]? = some (fmRow mode i row) := by
      simp only [fmL, List.getElem?_mapIdx, hrow, Option.map_some]
    have hst : ∀ {ch : Str} {tc : Tok}, fmRow mode i row = ch → StrsAre (ws ++ [.str ch tc]) ((fmL mode).take (i + 1)) := by
      intro ch tc e
      rw [List.take_add_one, hE, ← e]
      exact strsAre_snoc hws
    have hfd : ∀ {j : Nat} {bit : Int} {ch : Str}, row[j]? = some (bit, ch) → (∀ p ∈ row.take j, hitM mode i p = false) → hitM mode i (bit, ch) = true → fmRow mode i row = ch := by
      intro j bit ch hq hp hf
      unfold fmRow
      rw [find_take hq hp hf]
    have i0 : ((i : Int) == 0) = true → i = 0 := by intro h; simpa using h
    have i1 : ((i : Int) == 0) = false → ¬ i = 0 := by intro h h'; subst h'; simp at h
    have more : ∀ {j : Nat} {q : Int × Str}, row[j]? = some q → (∀ p ∈ row.take j, hitM mode i p = false) → hitM mode i q = false → ∀ p ∈ row.take (j + 1), hitM mode i p = false := by
      intro j q hq hp hf p hm
      rw [List.take_add_one, hq] at hm
      rcases List.mem_append.mp hm with h1 | h1
      · exact hp p h1
      · simp at h1; rw [h1]; exact hf
    refine r_ForIt ?_
    refine r_local rfl rfl rfl rfl ?_
    refine r_iterTup (hRw _ _) fun I hnI => ?_
    refine ⟨I, ps.length, _, _, _, _, _, fun j m2 l2 => A5 (l2 = (e, enO .none it (i + 1) (.ref ra)) :: (it, oi') :: (a, listO ws n) :: led) (m2 "mode" = some (.int mode t)) (m2 "perm" = some (.ref a)) ((∃ ti, m2 "index" = some (.int i ti))) (∀ p ∈ row.take j, hitM mode i p = false), rfl, rfl, (it_tup (C := Cx.e { W := C.W, A := A', E := E', β := β', L := L' } E'') (vs := ps) R'.h hnI).it, ⟨rfl, rfl⟩, ?_, ⟨rfl, by walk_at "look", by walk_at "look", ⟨_, by walk_at "look"⟩, by simp⟩, ?_, ?_⟩
    · rintro j m2 l2 ⟨rfl, _⟩; exact hRw _ _
    · rintro E3 j v o' ex m2 l2 hj ⟨hv, rfl⟩ hS' ⟨rfl, g1, g2, ⟨ti, g3⟩, g4⟩
      obtain ⟨⟨bit, ch⟩, hp, hpv⟩ := mapO_get hps hv
      obtain ⟨pa, tb2, tc2, rfl, hkp⟩ := pairIn_some hpv
      have hPr : ∀ (l : Led) (E'' : Value → Shared → Prop), Has (Cx.e { W := C.W, A := A', E := E', β := β', L := L' } E'') l pa (tupO [.int bit tb2, .str ch tc2]) := fun l E'' => .inr (st _ _ hkp)
      refine r_letTup (l := ra) (i := j + 1) (Has.head) hS' ?_
      refine r_asTup ?_
      refine r_unpackTup R'.h (hPr _ _) rfl ?_
      refine r_asCons (r_asName ?_)
      refine r_store rfl rfl rfl ?_
      refine r_asCons (r_asName ?_)
      refine r_store rfl rfl rfl ?_
      refine r_asNil ?_
      with_reducible refine r_consQ fun QQ hQQ => ?_
      refine r_If ?_
      with_reducible refine r_isCmp ?_
      (refine' r_local rfl rfl rfl ?hv ?_; (case hv => walk_at "look"))
      with_reducible refine r_int fun zt => ?_
      with_reducible refine r_eqI ?_
      with_reducible refine r_tBool ?_
      refine iteB (fun hb0 => ?_) (fun hb0 => ?_)
      · with_reducible refine r_consQ fun QQ hQQ => ?_
        refine r_If ?_
        with_reducible refine r_isCmp ?_
        refine r_Call ?_
        (refine' r_global rfl rfl rfl ?e ?_; (case e => k_is))
        refine' r_cwK ?hf ?_; (case hf => k_is)
        refine r_argCons ?_
        (refine' r_local rfl rfl rfl ?hv ?_; (case hv => walk_at "look"))
        with_reducible refine r_argNil ?_
        (refine ifmt_spec ?R ?_; (case R => walk_at "room"); intro zt)
        refine r_local rfl rfl rfl rfl ?_
        with_reducible refine r_eqI ?_
        with_reducible refine r_tBool ?_
        refine iteB (fun hb1 => ?_) (fun hb1 => ?_)
        · with_reducible refine r_consQ fun QQ hQQ => ?_
          refine r_Expr ?_
          refine r_MCall ?_
          (refine' r_local rfl rfl rfl ?hv ?_; (case hv => walk_at "look"))
          refine r_gmAppend (by walk_at "has") ?_
          refine r_cwB ?_
          refine r_argCons ?_
          refine r_local rfl rfl rfl rfl ?_
          with_reducible refine r_argNil ?_
          refine r_append (pre := [_, _, _]) (post := led) rfl (by rw [sizeLine_eq]; omega) fun n2 => ?_
          with_reducible refine leafN (by assumption) ?_
          with_reducible refine r_consQ fun QQ hQQ => ?_
          with_reducible refine r_Break ?_
          with_reducible refine leafB (by assumption) ?_
          with_reducible refine leafB (by assumption) ?_
          with_reducible refine leafB (by assumption) ?_
          with_reducible refine leafN (by assumption) ?_
          with_reducible refine r_nil ?_
          exact Turn.next _ (10 - (i + 1)) (List.Sublist.cons _ (.refl _)) (by omega) ⟨i + 1, .ref ra, oi', _, n2, rfl, by omega, rfl, hoi', by walk_at "look", by walk_at "look", hst (hfd hp g4 (by simp only [hitM, if_pos (i0 hb0)]; exact hb1)), by simp [hwl]⟩
        · with_reducible refine r_nil ?_
          with_reducible refine leafN (by assumption) ?_
          with_reducible refine r_nil ?_
          with_reducible refine leafN (by assumption) ?_
          with_reducible refine r_nil ?_
          exact ⟨_, .refl _, rfl, by walk_at "look", by walk_at "look", ⟨_, by walk_at "look"⟩, more hp g4 (by simp only [hitM, if_pos (i0 hb0)]; exact hb1)⟩
      · with_reducible refine r_consQ fun QQ hQQ => ?_
        refine r_If ?_
        with_reducible refine r_isCmp ?_
        with_reducible refine r_BinOp ?_
        (refine' r_local rfl rfl rfl ?hv ?_; (case hv => walk_at "look"))
        refine r_local rfl rfl rfl rfl ?_
        with_reducible refine r_band fun zt => ?_
        refine r_local rfl rfl rfl rfl ?_
        with_reducible refine r_eqI ?_
        with_reducible refine r_tBool ?_
        refine iteB (fun hb1 => ?_) (fun hb1 => ?_)
        · with_reducible refine r_consQ fun QQ hQQ => ?_
          refine r_Expr ?_
          refine r_MCall ?_
          (refine' r_local rfl rfl rfl ?hv ?_; (case hv => walk_at "look"))
          refine r_gmAppend (by walk_at "has") ?_
          refine r_cwB ?_
          refine r_argCons ?_
          refine r_local rfl rfl rfl rfl ?_
          with_reducible refine r_argNil ?_
          refine r_append (pre := [_, _, _]) (post := led) rfl (by rw [sizeLine_eq]; omega) fun n2 => ?_
          with_reducible refine leafN (by assumption) ?_
          with_reducible refine r_consQ fun QQ hQQ => ?_
          with_reducible refine r_Break ?_
          with_reducible refine leafB (by assumption) ?_
          with_reducible refine leafB (by assumption) ?_
          with_reducible refine leafB (by assumption) ?_
          with_reducible refine leafN (by assumption) ?_
          with_reducible refine r_nil ?_
          exact Turn.next _ (10 - (i + 1)) (List.Sublist.cons _ (.refl _)) (by omega) ⟨i + 1, .ref ra, oi', _, n2, rfl, by omega, rfl, hoi', by walk_at "look", by walk_at "look", hst (hfd hp g4 (by simp only [hitM, if_neg (i1 hb0)]; exact hb1)), by simp [hwl]⟩
        · with_reducible refine r_nil ?_
          with_reducible refine leafN (by assumption) ?_
          with_reducible refine r_nil ?_
          with_reducible refine leafN (by assumption) ?_
          with_reducible refine r_nil ?_
          exact ⟨_, .refl _, rfl, by walk_at "look", by walk_at "look", ⟨_, by walk_at "look"⟩, more hp g4 (by simp only [hitM, if_neg (i1 hb0)]; exact hb1)⟩
    · rintro E3 m2 l2 ⟨rfl, g1, g2, ⟨ti, g3⟩, g4⟩
      have hnone : row.find? (hitM mode i) = none := by
        rw [List.find?_eq_none]
        rw [mapO_len hps, List.take_length] at g4
        intro p hp; rw [g4 p hp]; decide
      with_reducible refine r_consQ fun QQ hQQ => ?_
      refine r_If ?_
      with_reducible refine r_isCmp ?_
      (refine' r_local rfl rfl rfl ?hv ?_; (case hv => walk_at "look"))
      with_reducible refine r_int fun zt => ?_
      with_reducible refine r_eqI ?_
      with_reducible refine r_tBool ?_
      refine iteB (fun hb0 => ?_) (fun hb0 => ?_)
      · with_reducible refine r_consQ fun QQ hQQ => ?_
        refine r_Expr ?_
        refine r_MCall ?_
        (refine' r_local rfl rfl rfl ?hv ?_; (case hv => walk_at "look"))
        refine r_gmAppend (by walk_at "has") ?_
        refine r_cwB ?_
        refine r_argCons ?_
        with_reducible refine r_str fun zt => ?_
        with_reducible refine r_argNil ?_
        refine r_append (pre := [_, _]) (post := led) rfl (by rw [sizeLine_eq]; omega) fun n2 => ?_
        with_reducible refine leafN (by assumption) ?_
        with_reducible refine r_nil ?_
        with_reducible refine leafN (by assumption) ?_
        with_reducible refine r_nil ?_
        with_reducible refine leafN (by assumption) ?_
        with_reducible refine r_nil ?_
        exact Turn.next _ (10 - (i + 1)) (.refl _) (by omega) ⟨i + 1, .ref ra, oi', _, n2, rfl, by omega, rfl, hoi', by walk_at "look", by walk_at "look", hst (by unfold fmRow; rw [hnone]; exact if_pos (i0 hb0)), by simp [hwl]⟩
      · with_reducible refine r_consQ fun QQ hQQ => ?_
        refine r_Expr ?_
        refine r_MCall ?_
        (refine' r_local rfl rfl rfl ?hv ?_; (case hv => walk_at "look"))
        refine r_gmAppend (by walk_at "has") ?_
        refine r_cwB ?_
        refine r_argCons ?_
        with_reducible refine r_str fun zt => ?_
        with_reducible refine r_argNil ?_
        refine r_append (pre := [_, _]) (post := led) rfl (by rw [sizeLine_eq]; omega) fun n2 => ?_
        with_reducible refine leafN (by assumption) ?_
        with_reducible refine r_nil ?_
        with_reducible refine leafN (by assumption) ?_
        with_reducible refine r_nil ?_
        with_reducible refine leafN (by assumption) ?_
        with_reducible refine r_nil ?_
        exact Turn.next _ (10 - (i + 1)) (.refl _) (by omega) ⟨i + 1, .ref ra, oi', _, n2, rfl, by omega, rfl, hoi', by walk_at "look", by walk_at "look", hst (by unfold fmRow; rw [hnone]; exact if_neg (i1 hb0)), by simp [hwl]⟩
  · obtain rfl : i = 10 := by omega
    refine r_nextEnumEnd R'.h hoi (hT _ _) (by rw [List.getElem?_eq_none]; rw [hlen]; decide) ?_
    with_reducible refine r_nil ?_
    with_reducible refine leafN (by assumption) ?_
    with_reducible refine r_consQ fun QQ hQQ => ?_
    with_reducible refine r_Ret ?_
    refine r_MCall ?_
    with_reducible refine r_str fun zt => ?_
    with_reducible refine r_gmJoin ?_
    refine r_cwB ?_
    refine r_argCons ?_
    (refine' r_local rfl rfl rfl ?hv ?_; (case hv => walk_at "look"))
    with_reducible refine r_argNil ?_
    rw [List.take_of_length_le (by rw [hlm]; exact Nat.le_refl _)] at hws
    refine r_join Has.head hws (fm_joinOk mode) fun t' => ?_
    with_reducible refine leafR (by assumption) ?_
    exact ⟨led, by walk_at "sub", h _⟩
end
end FM
section
section
variable {C : Cx} {m : Loc} {led : Led} {env : Env} {Q : Value → Loc → Led → Prop}
theorem r_iaddS {x y : Str} {t u : Tok} (hz : x.length + y.length ≤ sizeLine) (h : ∀ t', Q (.str (x ++ y) t') m led) : T C m led (inplaceOp .Add (.str x t) (.str y u)) Q :=
  fun s P => SB.iadd (fun _ _ => ⟨m, led, P.tk _, h _⟩) hz
theorem r_iaddI {a b : Int} {t u : Tok} (h : ∀ t', Q (.int (a + b) t') m led) : T C m led (inplaceOp .Add (.int a t) (.int b u)) Q := fun s P => iadd_int ⟨m, led, P.tk _, h _⟩
theorem r_isubI {a b : Int} {t u : Tok} (h : ∀ t', Q (.int (a - b) t') m led) : T C m led (inplaceOp .Sub (.int a t) (.int b u)) Q := fun s P => isub_int ⟨m, led, P.tk _, h _⟩
theorem r_post {α : Type} {t : Sem α} {Q : α → Loc → Led → Prop} (h : T C m led t fun a m1 l1 => ∃ l', List.Sublist l' l1 ∧ Q a m1 l') : T C m led t Q :=
  fun s P => h.run P fun a s' m' l' P' ⟨l2, hs, hq⟩ => ⟨m', l2, P'.drop hs, hq⟩
structure FROk (C : Cx) (env : Env) (x : Str) (body orelse : List Stmt) (Q : Flow → Loc → Led → Prop) (v : Value) (m1 : Loc) (l1 : Led) (r : Addr) (n : Nat) (t u w : Tok) (J : Nat → Loc → Led → Prop) : Prop where
  e : v = .ref r
  hn : n < 2 ^ 60
  hl : Has C l1 r (rangeO 0 n 1 t u w)
  hJ : ∃ l2, List.Sublist l2 l1 ∧ J 0 m1 l2
  turn : ∀ E' I o i m l t, i < n → J i m l → T (C.e E') m ((I, o) :: l) (storeName env x (.int (i : Nat) t)) fun _ m2 l2 => T (C.e E') m2 l2 (execs body env) (TurnF I o (J (i + 1)) Q)
  done : ∀ E' m l, J n m l → T (C.e E') m l (execs orelse env) Q
theorem r_ForRange {x : Str} {px pos : Pos} {iter : Expr} {body orelse : List Stmt} {Q : Flow → Loc → Led → Prop} (hh : C.A.handled = none)
    (h : T C m led (eval iter env) fun v m1 l1 => ∃ r n t u w J, FROk C env x body orelse Q v m1 l1 r n t u w J)
    (hs : ∀ x, foldedSetIterable iter env x = pure x := by intro _; rfl) : T C m led (exec (.For (.Name x px) iter body orelse pos) env) Q := by
  refine r_ForIt (h.mono fun v m1 l1 h1 => ?_) hs
  obtain ⟨r, n, t, u, w, J, F⟩ := h1
  obtain rfl := F.e
  obtain ⟨l0, hs0, hJ⟩ := F.hJ
  have hn := F.hn
  refine r_post ?_
  refine r_iterRange (n := n) F.hl (by split <;> omega) (by decide) (by decide) (by omega) (by omega) fun it => ?_
  refine ⟨(it, riO 0 1 n) :: l0, hs0.cons₂ _, ?_⟩
  refine ⟨it, n, _, _, _, _, l0, J, rfl, rfl, (it_range (a := 0) (n := n) hh).it, by simp, fun _ _ _ _ => trivial, hJ, ?_, F.done⟩
  rintro E' i v o' ex m l' hi ⟨⟨t', hv⟩, rfl⟩ _ hj
  have hv' : v = .int (i : Nat) t' := by rw [hv]; simp
  subst hv'
  refine r_letName (r_asName ((F.turn E' it o' i m l' t' hi hj).mono fun _ m2 l2 h2 => h2.mono fun f m3 l3 h3 => ?_))
  cases f <;> exact h3
end
section
variable {C : Cx} {m : Loc} {led : Led} {env : Env} {K : Type} [DecidableEq K]
theorem r_DispT {keys : List (Option Expr)} {values : List Expr} {pos : Pos} {Q : Value → Loc → Led → Prop} (knd : PySem.KeyKind PG C.W.w K)
    (hall : keys.all (·.isSome) = true) (hl : keys.length = values.length) (h0 : keys ≠ []) (hlen : keys.length ≤ 15)
    (h : ∀ a, (a == sysModules) = false → T C m ((a, { cls := .type "dict", data := .dict #[] }) :: led) (evalPairs (pairTrees keys values env pos)) fun vs m1 l1 => ∃ kvs l2, Carries knd vs kvs ∧ List.Sublist ((a, { cls := .type "dict", data := .dict #[] }) :: l2) l1 ∧ ∀ o, o.IsDictOf knd (merged [] kvs) → Q (.ref a) m1 ((a, o) :: l2)) :
    T C m led (eval (.Dict keys values pos) env) Q := by
  have hn := pairTrees_length keys values env pos hall hl
  exact r_Disp knd (zip_pairTrees keys values env pos hall hl) (fun he => h0 (List.length_eq_zero_iff.mp (by rw [← hn, he]; rfl))) (by rw [hn]; exact hlen) h
end
end
section
theorem cellLed_cons (p : Addr × Obj) : ∀ (names : List (Str × NameKind)) (n : Nat) (l : Led), List.Perm (cellLed n names (p :: l)) (p :: cellLed n names l)
  | [], n, l => .refl _
  | (_, kind) :: r, n, l => by
    unfold cellLed
    split
    · exact (cellLed_perm r (n + 1) (.swap _ _ _)).trans (cellLed_cons p r (n + 1) _)
    · exact cellLed_cons p r n l
where
  cellLed_perm : ∀ (names : List (Str × NameKind)) (n : Nat) {l l' : Led}, List.Perm l l' → List.Perm (cellLed n names l) (cellLed n names l')
  | [], n, l, l', h => h
  | (_, kind) :: r, n, l, l', h => by
    unfold cellLed
    split
    · exact cellLed_perm r (n + 1) (h.cons _)
    · exact cellLed_perm r n h
section
variable {C : Cx} {m : Loc} {led : Led} {env : Env}
structure LCin (C : Cx) (env : Env) (elt : Expr) (x : Str) (ifs : List Expr) (scope : Scope) (cl : List (Str × Addr)) (use : Option (Value → Sem Unit)) (Q : Value → Loc → Led → Prop) (m2 : Loc) (I : Addr) (n : Nat) (items : Nat → Value → Led → Prop) (S : Nat → Obj → Prop) (l3 : Led)
    (D L' : Addr) (β' : Addr → Option Obj) (E' : Value → Shared → Prop) (dep : Led → Prop) (K : Nat → List Value → Led → Prop) : Prop where
  X : IsIt ⟨C.W, C.A, E', β', L'⟩ I n items S dep
  hdep : ∀ i ys l k, K i ys l → dep ((D, listO ys k) :: l) ∧ ys.length ≤ i
  hK : K 0 [] (cellLed (L' + 1) scope.names l3)
  turn : ∀ i v ex ys m o k l, i < n → items i v ex → S (i + 1) o → K i ys l → T ⟨C.W, C.A, E', β', L'⟩ m (ex ++ (I, o) :: (D, listO ys k) :: l) (storeName (cenvOf scope cl L' env) x v) fun _ m2 l2 => T ⟨C.W, C.A, E', β', L'⟩ m2 l2 (testsT ifs (cenvOf scope cl L' env)) fun ok m3 l3 =>
          if ok = true then T ⟨C.W, C.A, E', β', L'⟩ m3 l3 (eval elt (cenvOf scope cl L' env)) fun y m4 l4 => ∃ l', List.Sublist ((I, o) :: (D, listO ys k) :: l') l4 ∧ K (i + 1) (ys ++ [y]) l'
          else ∃ l', List.Sublist ((I, o) :: (D, listO ys k) :: l') l3 ∧ K (i + 1) ys l'
  fin : ∀ ys l k, K n ys l → ∃ l', List.Sublist l' ((D, listO ys k) :: l) ∧ CompEnd C use D L' Q m2 l'
structure LCOk (C : Cx) (env : Env) (elt : Expr) (x : Str) (ifs : List Expr) (scope : Scope) (cl : List (Str × Addr)) (use : Option (Value → Sem Unit)) (Q : Value → Loc → Led → Prop) (it : Value) (m2 : Loc) (l2 : Led) (I : Addr) (n : Nat) (items : Nat → Value → Led → Prop) (S : Nat → Obj → Prop) (o : Obj) (l3 : Led) : Prop where
  e : it = .ref I
  hsub : List.Sublist ((I, o) :: l3) l2
  hS : S 0 o
  hn : n ≤ 1000000
  h2 : ∀ (D L' : Addr) (β' : Addr → Option Obj) (E' : Value → Shared → Prop), Up C.β β' → ∃ dep K, LCin C env elt x ifs scope cl use Q m2 I n items S l3 D L' β' E' dep K
theorem r_LC {elt iter : Expr} {x : Str} {px : Pos} {ifs : List Expr} {scope : Scope} {cl : List (Str × Addr)} {pos pos' : Pos} {use : Option (Value → Sem Unit)} {Q : Value → Loc → Led → Prop}
    (hclos : closureFor scope env = pure cl) (hkind : scope.kind = .function) (hnames : ∀ y ∈ scope.names, y.2 = .local → scope.names.lookup y.1 = some .local)
    (h : T C m led (eval iter env) fun xv m1 l1 => T C m1 l1 (pyIter xv) fun it m2 l2 => ∃ I n items S o l3, LCOk C env elt x ifs scope cl use Q it m2 l2 I n items S o l3)
    (hs : ∀ x, foldedSetIterable iter env x = pure x := by intro _; rfl) :
    T C m led (comprehension (.ListComp elt [⟨.Name x px, iter, ifs, 0⟩] scope pos) scope env pos' (newList []) false (eval iter env) use) Q := by
  refine r_compList hclos hkind hnames (h.mono fun xv m1 l1 h1 => r_post (h1.mono fun it m2 l2 h2 => ?_)) hs
  obtain ⟨I, n, items, S, o, l3, F⟩ := h2
  refine ⟨_, F.hsub, I, F.e, fun D L' β' E' up => ?_⟩
  obtain ⟨dep, K, G⟩ := F.h2 D L' β' E' up
  refine ⟨fun k m' l' => ∃ i o ys c l, k = n - i ∧ i ≤ n ∧ List.Perm l' ((I, o) :: (D, listO ys c) :: l) ∧ S i o ∧ K i ys l, n, ⟨0, o, [], 0, _, rfl, Nat.zero_le _, ?_, F.hS, G.hK⟩, ?_, ?_⟩
  · exact ((cellLed_cons _ _ _ _).trans ((cellLed_cons _ _ _ _).cons _)).trans (.swap _ _ _)
  · rintro k m' l' ⟨i, o, ys, c, l, rfl, hi, hp, hS, hk⟩
    refine r_perm ?_ hp.symm
    refine G.X.self E' i o m' _ _ hS (G.hdep _ _ _ _ hk).1 ⟨rfl, i, o, ys, c, l, rfl, hi, .refl _, hS, hk⟩
  · rintro k m' l' ⟨i, o, ys, c, l, rfl, hi, hp, hS, hk⟩
    refine r_perm ?_ hp.symm
    by_cases hlt : i < n
    · refine G.X.it.item E' i o m' _ _ hlt hS (G.hdep _ _ _ _ hk).1 fun v o' ex hv hS' => ?_
      refine (G.turn i v ex ys m' o' c l hlt hv hS' hk).mono fun _ m2 l2 h2 => h2.mono fun ok m3 l3 h3 => ?_
      cases ok with
      | false =>
        simp only [Bool.false_eq_true, if_false] at h3 ⊢
        obtain ⟨l4, hs4, hk4⟩ := h3
        exact ⟨_, n - (i + 1), hs4, by omega, i + 1, o', ys, c, l4, rfl, by omega, .refl _, hS', hk4⟩
      | true =>
        simp only [if_true] at h3 ⊢
        refine r_post (h3.mono fun y m4 l4 h4 => ?_)
        obtain ⟨l5, hs5, hk5⟩ := h4
        refine ⟨_, hs5, ?_⟩
        have hl := (G.hdep _ _ _ 0 hk).2
        have hn := F.hn
        refine r_append (pre := [(I, o')]) (post := l5) rfl (by rw [sizeLine_eq]; omega) fun c' => ?_
        exact ⟨_, n - (i + 1), .refl _, by omega, i + 1, o', ys ++ [y], c', l5, rfl, by omega, .refl _, hS', hk5⟩
    · obtain rfl : i = n := by omega
      exact G.X.it.done E' o m' _ _ hS (G.hdep _ _ _ _ hk).1 (G.fin ys l c hk)
end
end
section
theorem allN_nodup (h : Heap) (L : Addr) : ((allN h L).map (·.1)).Nodup := by
  unfold allN
  have key : ∀ (l : List Nat), l.Nodup → (List.map (·.1) (l.filterMap fun a => if a = L then none else (h.get? a).map fun o => (a, o))).Sublist l := by
    intro l
    induction l with
    | nil => intro _; simp
    | cons a l ih =>
      intro hn
      have ih := ih (List.nodup_cons.mp hn).2
      rw [List.filterMap_cons]
      split
      · exact ih.cons _
      · rename_i p e
        split at e
        · cases e
        · obtain ⟨o, _, e2⟩ := Option.map_eq_some_iff.mp e
          subst e2
          exact ih.cons₂ _
  exact (key _ List.nodup_range).nodup List.nodup_range
theorem allN_split {h : Heap} {L a : Addr} {o : Obj} (ho : h.get? a = some o) (hL : a ≠ L) : ∃ pre post, allN h L = pre ++ (a, o) :: post ∧ (∀ p ∈ pre, p.1 ≠ a) ∧ ∀ p ∈ post, p.1 ≠ a := by
  obtain ⟨pre, post, e⟩ := List.append_of_mem (mem_allN.mpr ⟨ho, hL⟩)
  have hn := allN_nodup h L
  rw [e] at hn
  exact ⟨pre, post, e, nodup_fst_ne hn⟩
section
variable {W : Wd} {β : Addr → Option Obj} {L : Addr} {m : Str → Option Value} {led : List (Addr × Obj)} {s : Shared}
theorem Pt.ofUp {h' : Heap} {a : Addr} {o o' : Obj} {pre post preN postN : Led} (P : Pt W β L m (pre ++ (a, o) :: post) s) (e : allN s.heap L = preN ++ (a, o) :: postN) (F : Fr noHeap L h' m) (N : News noHeap L h' (preN ++ (a, o') :: postN)) (t : Nat) :
    Pt W β L m (pre ++ (a, o') :: post) { s with heap := h', toks := t } := by
  have ho' : h'.get? a = some o' := (N (a, o') (by simp)).1
  obtain ⟨oL, es, ep, hL, r⟩ := P.ns
  have X : ∀ b x, b ≠ a → b ≠ L → s.heap.get? b = some x → h'.get? b = some x := fun b x hb hbL q => by
    have hm : (b, x) ∈ preN ++ (a, o) :: postN := e ▸ mem_allN.mpr ⟨q, hbL⟩
    refine (N (b, x) ?_).1
    rcases List.mem_append.mp hm with h1 | h1
    · exact List.mem_append_left _ h1
    · rcases List.mem_cons.mp h1 with h2 | h2
      · exact absurd (Prod.mk.inj h2).1 hb
      · exact List.mem_append_right _ (List.mem_cons_of_mem _ h2)
  have D := P.own (a, o) (by simp)
  obtain ⟨n1, n2⟩ := nodup_fst_ne P.nd
  refine ⟨P.base, P.keeps fun b x y q e => X b x (fun z => ?_) (fun z => ?_) e, P.off, F.ns, fun p hp => ?_, ?_, P.gens, P.os⟩
  · have := D.2.2; rw [← z, q] at this; cases this
  · rw [z, P.off] at q; cases q
  · rcases List.mem_append.mp hp with q | q
    · have R := P.own p (List.mem_append_left _ q); exact ⟨X _ _ (n1 p q) R.2.1 R.1, R.2⟩
    · rcases List.mem_cons.mp q with rfl | q
      · exact ⟨ho', D.2⟩
      · have R := P.own p (List.mem_append_right _ (.tail _ q)); exact ⟨X _ _ (n2 p q) R.2.1 R.1, R.2⟩
  · have := P.nd
    simpa only [List.map_append, List.map_cons] using this
end
inductive Flds : List DictEntry → List (Str × Value) → Prop
  | nil : Flds [] []
  | cons (h : Int) (x : Str) (t : Tok) (v : Value) {es fs} : Flds es fs → Flds (⟨h, .str x t, v⟩ :: es) ((x, v) :: fs)
def FieldsO (fs : List (Str × Value)) (o : Obj) : Prop := ∃ es n, o = dictOf es n ∧ Flds es fs
def putF (name : Str) (v : Value) : List (Str × Value) → List (Str × Value)
  | [] => [(name, v)]
  | p :: r => if p.1 = name then (p.1, v) :: r else p :: putF name v r
theorem isStr_str (x name : Str) (t : Tok) : (Value.str x t).isStr name = decide (x = name) := by
  show (x == name) = _
  by_cases h : x = name
  · subst h; simp
  · rw [decide_eq_false h]; exact beq_eq_false_iff_ne.mpr h
theorem Flds.refs {es : List DictEntry} {fs : List (Str × Value)} (h : Flds es fs) : es.any (·.refKey) = false := by
  induction h with
  | nil => rfl
  | cons h x t v _ ih => rw [List.any_cons, ih]; rfl
theorem Flds.get {es : List DictEntry} {fs : List (Str × Value)} (h : Flds es fs) (name : Str) : getL name es = some ((fs.find? fun p => decide (p.1 = name)).map (·.2)) := by
  have hr := h.refs
  unfold getL
  have key : (es.find? (·.key.isStr name)).map (·.val) = (fs.find? fun p => decide (p.1 = name)).map (·.2) := by
    clear hr
    induction h with
    | nil => rfl
    | cons h x t v _ ih =>
      simp only [List.find?_cons, isStr_str]
      by_cases hx : x = name
      · simp [hx]
      · simp only [decide_eq_false hx]; exact ih
  cases hf : es.find? (·.key.isStr name) with
  | some e => rw [hf] at key; simp only [Option.map_some] at key; rw [← key]
  | none => rw [hf] at key; simp only [Option.map_none] at key; rw [← key, hr]; rfl
theorem Flds.put {es : List DictEntry} {fs : List (Str × Value)} (h : Flds es fs) (name : Str) (hs : Int) (t : Tok) (v : Value) : Flds (putL name hs (.str name t) v es) (putF name v fs) := by
  induction h with
  | nil => exact .cons _ _ _ _ .nil
  | cons h x t' v' hh ih =>
    unfold putL putF
    simp only [isStr_str]
    by_cases hx : x = name
    · simp only [decide_eq_true hx, if_true, hx]; exact .cons _ _ _ _ hh
    · simp only [decide_eq_false hx, Bool.false_eq_true, if_false, if_neg hx]; exact .cons _ _ _ _ ih
theorem Flds.len {es : List DictEntry} {fs : List (Str × Value)} (h : Flds es fs) : es.length = fs.length := by
  induction h with
  | nil => rfl
  | cons _ _ _ _ _ ih => simp [ih]
section
variable {C : Cx} {m : Loc} {led : Led} {env : Env} {x dx cl : Addr} {fs : List (Str × Value)} {o : Obj} {name : Str} {v : Value}
abbrev insO (cl dx : Addr) (sl : Array (Option Value)) : Obj := { cls := .ref cl, dict := some dx, data := .plain, slots := sl }
theorem inst_at {s : Shared} {sl : Array (Option Value)} (hx : Has C led x (insO cl dx sl)) (hdx : Has C led dx o) (P : Pt C.W C.β C.L m led s) : InstAt s.heap x (insO cl dx sl) cl (some o) := ⟨hx.get P, rfl, rfl, hdx.get P⟩
theorem r_getAttr {expr : Bool} {attr : Option Value} {Q : Value → Loc → Led → Prop} (hx : Has C led x (insO cl dx #[])) (hdx : Has C led dx o) (hf : FieldsO fs o)
    (hg : plainGet (hd.heap_1 C.W.w.params) cl name = true) (hh : hasDictIn (hd.heap_1 C.W.w.params) cl = true) (ha : findIn (hd.heap_1 C.W.w.params) (.ref cl) name = some attr) (hn : noGet (hd.heap_1 C.W.w.params) attr = true) (hl : (fs.find? fun p => decide (p.1 = name)).map (·.2) = some v) (hv : handedIn v = true) (h : Q v m led) :
    T C m led (getAttr (.ref x) name expr) Q := fun s P => by
  obtain ⟨es, n, rfl, hF⟩ := hf
  exact get_value P.X (inst_at hx hdx P) (plainGet_of hg).1 (findObj_own hh ha hn ((lookIn_dict _ _ _).trans ((hF.get name).trans (by rw [hl])))) hv ⟨m, led, P.tk _, h⟩
theorem r_setAttr {pre post : Led} {Q : Unit → Loc → Led → Prop} (hx : Has C led x (insO cl dx #[])) (e : led = pre ++ (dx, o) :: post) (hf : FieldsO fs o)
    (hs : findIn (hd.heap_1 C.W.w.params) (.ref cl) "__setattr__" = some (some (.builtin "object.__setattr__"))) (hp : plainOver (hd.heap_1 C.W.w.params) cl = true) (ht : takerIn (hd.heap_1 C.W.w.params) cl name = some none) (hh : hasDictIn (hd.heap_1 C.W.w.params) cl = true) (hz : fs.length ≤ 100)
    (h : ∀ o', FieldsO (putF name v fs) o' → Q () m (pre ++ (dx, o') :: post)) : T C m led (setAttr (.ref x) name v) Q := fun s P => by
  subst e
  obtain ⟨es, n, rfl, hF⟩ := hf
  have hdg := P.get (a := dx) (o := dictOf es n) (by simp)
  have hL := (P.own (dx, dictOf es n) (by simp)).2.1
  obtain ⟨preN, postN, eN, n1, n2⟩ := allN_split hdg hL
  have N := P.news
  rw [eN] at N
  have hdd : Has C (pre ++ (dx, dictOf es n) :: post) dx (dictOf es n) := .inl (by simp)
  have I := inst_at hx hdd P
  have hz' : (putL name (PyData.keyHash C.W.w.params name) (.str name (s.toks + 1)) v es).length ≤ 1000 := by
    rw [(hF.put name _ _ v).len]
    have : ∀ fs : List (Str × Value), (putF name v fs).length ≤ fs.length + 1 := by
      intro fs
      induction fs with
      | nil => simp [putF]
      | cons p r ih => unfold putF; split <;> simp only [List.length_cons] <;> omega
    have := this fs
    omega
  refine set_plain P.X I hs (osa_dict (s := { s with toks := s.toks + 1 }) P.fr N P.X I rfl hp ht hh (by rw [lookIn_dict, hF.get name]; rfl) n1 n2 (putName_dict _ _ _ _ _ _) rfl hz' fun h' F' N' => ?_)
  exact ⟨m, _, P.ofUp eN F' N' _, h _ ⟨_, _, rfl, hF.put name _ _ v⟩⟩
theorem r_gmInst {sl : Array (Option Value)} {f : Addr} {pl : Sem Bool} {Q : Value × List Value → Loc → Led → Prop} (hx : Has C led x (insO cl dx sl)) (hdx : Has C led dx o) (hf : FieldsO fs o)
    (hg : plainGet (hd.heap_1 C.W.w.params) cl name = true) (hfn : findIn (hd.heap_1 C.W.w.params) (.ref cl) name = some (some (.ref f))) (ht : isFn (hd.heap_1 C.W.w.params) (.ref f) = true) (hl : (fs.find? fun p => decide (p.1 = name)) = none) (h : Q (.ref f, [.ref x]) m led) :
    T C m led (getMethod (.ref x) name pl) Q := fun s P => by
  obtain ⟨es, n, rfl, hF⟩ := hf
  refine method_fn P.X (inst_at hx hdx P) (plainGet_of hg).1 (plainGet_of hg).2 hfn (beq_iff_eq.mp ht) ?_ ⟨m, led, P, h⟩
  show (lookIn name (dictOf es n)).map _ = _
  rw [lookIn_dict, hF.get name, hl]; rfl
end
end
section
section
variable {C : Cx} {m : Loc} {led : Led} {env : Env} {x dx cl p : Addr} {fs : List (Str × Value)} {o : Obj} {name : Str} {v : Value} {i : Nat}
theorem r_Attr {value : Expr} {attr : Str} {pos : Pos} {Q : Value → Loc → Led → Prop} (h : T C m led (eval value env) fun o m1 l1 => T C m1 l1 (getAttr o attr true) Q)
    (he : eval (.Attribute value attr pos) env = (do
      let o ← eval value env
      standAt pos.atName
      let r ← holding [o] (getAttr o attr true)
      letTemporaryGo value o r
      pure r) := by with_unfolding_all rfl) : T C m led (eval (.Attribute value attr pos) env) Q :=
  fun s P => Attribute_any_ (h.run P fun v s1 m1 l1 P1 h1 => h1 s1 P1) he
theorem r_getSlot {expr : Bool} {sl : Array (Option Value)} {Q : Value → Loc → Led → Prop} (hx : Has C led x (insO cl dx sl)) (hdx : Has C led dx o)
    (hg : plainGet (hd.heap_1 C.W.w.params) cl name = true) (hc : isClsIn (hd.heap_1 C.W.w.params) cl = true) (ha : findIn (hd.heap_1 C.W.w.params) (.ref cl) name = some (some (.ref p))) (hn : specialIn (hd.heap_1 C.W.w.params) (.ref p) "__get__" = some (some (.builtin "member_descriptor.__get__")))
    (ht : takesIn (hd.heap_1 C.W.w.params) (.ref p) = some true) (hp : slotIn (hd.heap_1 C.W.w.params) p cl = some i) (hv : (sl[i]?).join = some v) (hh : handedIn v = true) (h : Q v m led) : T C m led (getAttr (.ref x) name expr) Q := fun s P => by
  have I := inst_at hx hdx P
  exact get_bind P.X I (plainGet_of hg).1 (findObj_data hc ha hn ht) (plainGet_of hg).2 (wpAny_call (slot_get (s := { s with toks := s.toks + 1 }) P.X I hp hv (handed_on hh ⟨m, led, P.tk _, h⟩)))
theorem r_setSlot {pre post : Led} {sl : Array (Option Value)} {Q : Unit → Loc → Led → Prop} (e : led = pre ++ (x, insO cl dx sl) :: post) (hdx : Has C led dx o)
    (hs : findIn (hd.heap_1 C.W.w.params) (.ref cl) "__setattr__" = some (some (.builtin "object.__setattr__"))) (hp : plainOver (hd.heap_1 C.W.w.params) cl = true) (ht : takerIn (hd.heap_1 C.W.w.params) cl name = some (some (.ref p))) (hT : typeIn (hd.heap_1 C.W.w.params) (.ref p) = some (.type "member_descriptor"))
    (hi : slotIn (hd.heap_1 C.W.w.params) p cl = some i) (hz : i < 1000)
    (h : Q () m (pre ++ (x, insO cl dx ((sl ++ Array.replicate (i + 1 - sl.size) none).setIfInBounds i (some v))) :: post)) : T C m led (setAttr (.ref x) name v) Q := fun s P => by
  subst e
  have hxx : Has C (pre ++ (x, insO cl dx sl) :: post) x (insO cl dx sl) := .inl (by simp)
  have hL := (P.own (x, insO cl dx sl) (by simp)).2.1
  obtain ⟨preN, postN, eN, n1, n2⟩ := allN_split (hxx.get P) hL
  have N := P.news
  rw [eN] at N
  have I := inst_at hxx hdx P
  refine set_plain P.X I hs (osa_descr (s := { s with toks := s.toks + 1 }) PySem.W.KF.slot_mset P.X I hp ht hT (slot_set (s := { s with toks := s.toks + 1 }) P.fr N P.X I hi hz n1 n2 rfl rfl fun h' F' N' => ?_))
  exact ⟨m, _, P.ofUp eN F' N' _, h⟩
end
end
section
section
variable {C : Cx} {m : Loc} {led : Led} {env : Env}
theorem r_callCls {Q : Value → Loc → Led → Prop} {cl fI : Addr} {args : List Value} {name qual : Str} {params : Arguments} {body : List Stmt} {scope : Scope} {dV kV doc pm cdv ct oc : Value} {an od : Option Addr} {osl : Array (Option Value)} {k : Nat}
    (R : Room C (k + 2)) (hm : makesIn (hd.heap_1 C.W.w.params) cl = true) (hi : findIn (hd.heap_1 C.W.w.params) (.ref cl) "__init__" = some (some (.ref fI))) (hf : isFn (hd.heap_1 C.W.w.params) (.ref fI) = true)
    (ho : (hd.heap_1 C.W.w.params).lookup fI = some ⟨oc, od, .func (fnOf name qual params body scope dV kV doc pm an cdv ct), osl⟩) (hcd : codeIn (hd.heap_1 C.W.w.params) cdv qual = true)
    (hco : scope.isCoroutine = false) (hgen : scope.isGenerator = false) (hk : scope.kind = .function)
    (h : ∀ x dx, ∃ binds, bindArgs (fnOf name qual params body scope dV kV doc pm an cdv ct) ⟨.ref x :: args, []⟩ = pure binds ∧ (binds.all fun x => decide (scope.names.lookup x.1 = some .local)) = true ∧
      ∀ A' E' β' L', Room ⟨C.W, A', E', β', L'⟩ k → Up C.β β' →
      T ⟨C.W, A', E', β', L'⟩ (bindM binds fun _ => none) (cellLed (L' + 1) scope.names ((x, insO cl dx #[]) :: (dx, dictOf [] 0) :: led)) (execs body (envOfC qual scope L' fI cdv)) fun fl _ led' => retv fl = .none ∧ ∃ l', List.Sublist l' led' ∧ Q (.ref x) m l') :
    T C m led (call (.ref cl) args) Q := fun s P => by
  have P1 := P.alloc (dictOf [] 0)
  have P2 := P1.alloc (insO cl s.heap.objs.size #[])
  rw [show ({ s with heap := s.heap.push (dictOf [] 0) } : Shared).heap.objs.size = s.heap.objs.size + 1 from Heap.size_push ..] at P2
  obtain ⟨binds, hbind, hloc, h⟩ := h (s.heap.objs.size + 1) s.heap.objs.size
  obtain ⟨hh, g, d, t, os⟩ := s
  refine wpAny_call (make_core (makes_of P.X hm) (looks_findIn P.X hi) (fun self => bind_fn P.X self (beq_iff_eq.mp hf)) (.inl rfl) ?_)
  refine codeAny_call_function (fd := fnOf name qual params body scope dV kV doc pm an cdv ct) (body := body) (by have := R.d; show C.A.depth + 1 < recursionLimit; unfold recursionLimit; omega) (P2.X _ _ ho) rfl hco hgen rfl (codeRec_of P2.X hcd) ?_
  rw [hbind]
  refine wpAny_pure ?_
  generalize hs1 : (⟨(hh.push emptyDict).push (instObj cl hh.objs.size), g, d, t, os⟩ : Shared) = s1
  have P1' : Pt C.W C.β C.L m ((hh.objs.size + 1, insO cl hh.objs.size #[]) :: (hh.objs.size, dictOf [] 0) :: led) s1 := hs1 ▸ P2
  simp only [newFunctionEnv, Option.isSome_none, Bool.false_eq_true, if_false]
  refine wpAny_bind (wpAny_alloc ?_)
  refine wpAny_bind (wpAny_layCells _ (fun name kind cells => by cases hkc : kind == NameKind.cell <;> simp [hkc]) _ _ _ _ ?_)
  have hnone : s1.heap.get? s1.heap.objs.size = none := by
    cases q : s1.heap.get? s1.heap.objs.size with
    | none => rfl
    | some o => exact absurd (Heap.lt_size q) (Nat.lt_irrefl _)
  have P3 := (P1'.into (L' := s1.heap.objs.size) (m' := fun _ => none) (s' := { s1 with heap := s1.heap.push { cls := .type "frame", data := .dict #[] } }) hnone (Heap.Ns.new s1.heap (.type "frame")) (fun b o e => Heap.get?_push_of_some _ e) rfl rfl).cells scope.names
  have hsz : ({ s1 with heap := s1.heap.push { cls := .type "frame", data := .dict #[] } } : Shared).heap.objs.size = s1.heap.objs.size + 1 := Heap.size_push ..
  rw [hsz] at P3 ⊢
  refine wpAny_bind (bindAll (env := envOfC qual scope s1.heap.objs.size fI cdv) _ (fun _ _ _ => rfl) hk binds (fun _ => none) _ _ P3 (fun x hx => locs hloc x hx) fun s' P' _ => ?_)
  refine wpAny_pure ⟨P'.nolimit, codeAny_func ?_⟩
  refine (h _ _ _ s1.heap.objs.size ⟨?_, ?_, ?_⟩ P1'.up).run P' fun fl s'' m'' led'' P'' ⟨hv, l', hs, hq⟩ => ⟨hv, ⟨m, l', (P1'.back P'').drop hs, hq⟩⟩
  · have := R.d; show C.A.depth + 1 + 1 + 2 * k < 1000; omega
  · have := R.u
    show (C.A.under (.builtin "type.__call__" ⟨.ref cl :: args, []⟩)).units + 3 + 100 * k < 9900
    have e : (C.A.under (.builtin "type.__call__" ⟨.ref cl :: args, []⟩)).units ≤ C.A.units + 100 := by
      have : (Code.builtin "type.__call__" ⟨.ref cl :: args, []⟩).cUnits ≤ 100 := by
        show 1 + 3 * (Code.builtin "type.__call__" ⟨.ref cl :: args, []⟩).frames ≤ 100
        have e : (Code.builtin "type.__call__" ⟨.ref cl :: args, []⟩).frames = 0 ∨ (Code.builtin "type.__call__" ⟨.ref cl :: args, []⟩).frames = 1 := by
          first | exact .inl rfl | exact .inr rfl | exact .inl (by kernel_rfl) | exact .inr (by kernel_rfl)
        omega
      exact Nat.add_le_add_left this _
    omega
  · exact R.h
end
end
section
namespace BW
theorem slot_ga : Slot "list_iterator" "__getattribute__" "object.__getattribute__" :=
  .of (owner := "object") (n := "__getattribute__") (by rw [typeLookup_type, builtinLookup_eq_fast]; kernel_rfl) (by decide +kernel) (by decide +kernel) (by decide +kernel)
    (by first | exact .inl (by decide +kernel) | exact .inr (by decide +kernel)) (by rw [isSubtype_type]; kernel_rfl)
theorem entry_ga : entryFor table "object.__getattribute__" = some Builtin.«object.__getattribute__» := entryFor_of_tree (by kernel_rfl)
theorem args_ga (a b : Value) : argsOk "object.__getattribute__" ⟨[a, b], []⟩ := by unfold argsOk; kernel_rfl
theorem lk_next : typeLookup (.type "list_iterator") "__next__" = pure (some (.builtin "list_iterator.__next__")) := by rw [typeLookup_type, builtinLookup_eq_fast]; kernel_rfl
theorem ty_next : typeOf (.builtin "list_iterator.__next__") = pure (.type "wrapper_descriptor") := by kernel_rfl
theorem slot_get : Slot "wrapper_descriptor" "__get__" "wrapper_descriptor.__get__" :=
  .of (owner := "wrapper_descriptor") (n := "__get__") (by rw [typeLookup_type, builtinLookup_eq_fast]; kernel_rfl) (by decide +kernel) (by decide +kernel) (by decide +kernel)
    (by first | exact .inl (by decide +kernel) | exact .inr (by decide +kernel)) (by rw [isSubtype_type]; kernel_rfl)
theorem no_set : typeLookup (.type "wrapper_descriptor") "__set__" = pure none := by rw [typeLookup_type, builtinLookup_eq_fast]; kernel_rfl
theorem no_del : typeLookup (.type "wrapper_descriptor") "__delete__" = pure none := by rw [typeLookup_type, builtinLookup_eq_fast]; kernel_rfl
theorem no_ga : typeLookup (.type "list_iterator") "__getattr__" = pure none := by rw [typeLookup_type, builtinLookup_eq_fast]; kernel_rfl
theorem entry_get : entryFor table "wrapper_descriptor.__get__" = some Builtin.«wrapper_descriptor.__get__» := entryFor_of_tree (by kernel_rfl)
theorem args_get (a b c : Value) : argsOk "wrapper_descriptor.__get__" ⟨[a, b, c], []⟩ := by unfold argsOk; kernel_rfl
theorem owner_next : (".".intercalate ("list_iterator.__next__".cutAt '.').dropLast) = "list_iterator" := by
  have e0 : "list_iterator.__next__".cutAt '.' = ["list_iterator", "__next__"] := by first | rfl | decide +kernel
  rw [e0]; decide +kernel
theorem sub_li : isSubtype (.type "list_iterator") (.type "list_iterator") = pure true := by rw [isSubtype_type]; kernel_rfl
end BW
section
variable {prog : Program} {w : World} {A : Around} {E : Value → Shared → Prop} {h : Heap} {g : Array GenState} {d : Drawn} {t : Nat} {os : OsState} {it l : Addr} {i : Nat}
abbrev mwO (it : Addr) : Obj := { cls := .type "method-wrapper", data := .fields #[.builtin "list_iterator.__next__", .ref it] }
abbrev liO' (l : Addr) (i : Nat) : Obj := { cls := .type "list_iterator", data := .fields #[.ref l, .int i 0] }
theorem next_get {R : Result → Shared → Prop} (hx : h.get? it = some (liO' l i)) (hq : R (.ok (.ret (.ref h.objs.size))) ⟨h.push (mwO it), g, d, t, os⟩) :
    codeAny (model prog w) A (.call (.builtin "wrapper_descriptor.__get__") ⟨[.builtin "list_iterator.__next__", .ref it, .type "list_iterator"], []⟩) R ⟨h, g, d, t, os⟩ := by
  have hT : (⟨h, g, d, t, os⟩ : Shared).TypeIs (.ref it) "list_iterator" := ⟨_, hx, rfl⟩
  have hT5 : (⟨h, g, d, t, os⟩ : Shared).TypeIs (.builtin "list_iterator.__next__") "wrapper_descriptor" := BW.ty_next
  have f8 : isSubtype (.type "list_iterator") (.type (".".intercalate ("list_iterator.__next__".cutAt '.').dropLast)) = pure true := by rw [BW.owner_next]; exact BW.sub_li
  refine codeAny_call_builtin BW.slot_get.plain BW.entry_get (BW.slot_get.check _ _ _ _ _ _ _ _ hT5 (BW.args_get _ _ _) ?_)
  unfold Builtin.«wrapper_descriptor.__get__»
  repeat (any_goals (first | assumption | wp_step))
theorem next_entry {tk : Tok} {Q : Fin → Shared → Prop} (hx : h.get? it = some (liO' l i)) (hq : Q (.done (.ret (.ref h.objs.size))) ⟨h.push (mwO it), g, d, t, os⟩) :
    wpAny (model prog w) A (Builtin.«object.__getattribute__» ⟨[.ref it, .str "__next__" tk], []⟩) Q E ⟨h, g, d, t, os⟩ := by
  have hT : (⟨h, g, d, t, os⟩ : Shared).TypeIs (.ref it) "list_iterator" := ⟨_, hx, rfl⟩
  have hT5 : (⟨h, g, d, t, os⟩ : Shared).TypeIs (.builtin "list_iterator.__next__") "wrapper_descriptor" := BW.ty_next
  have f4 := BW.lk_next
  have f5 := BW.ty_next
  have f6 := BW.slot_get.lookup
  have f7 := BW.no_set
  have f9 := BW.no_del
  unfold Builtin.«object.__getattribute__»
  repeat (any_goals (first | assumption | wp_step))
  refine next_get hx ?_
  repeat (any_goals (first | assumption | wp_step))
theorem next_by {tk : Tok} {fill expr : Bool} {Q : Value → Shared → Prop} (hx : h.get? it = some (liO' l i)) (hq : Q (.ref h.objs.size) ⟨h.push (mwO it), g, d, t, os⟩) :
    wpAny (model prog w) A (getAttrBy (.ref it) (.str "__next__" tk) fill expr) Q E ⟨h, g, d, t, os⟩ := by
  have hT : (⟨h, g, d, t, os⟩ : Shared).TypeIs (.ref it) "list_iterator" := ⟨_, hx, rfl⟩
  have f2 := BW.slot_ga.lookup
  have f3 := BW.slot_ga.bind (.ref it)
  have hx0 : (expr && onTheHeap (Value.builtin "object.__getattribute__")) = false := by cases expr <;> rfl
  repeat (any_goals (first | assumption | wp_step))
  refine codeAny_call_builtin BW.slot_ga.plain BW.entry_ga (BW.slot_ga.check _ _ _ _ _ _ _ _ hT (BW.args_ga _ _) (next_entry hx ?_))
  repeat (any_goals (first | assumption | wp_step))
theorem next_attr {expr : Bool} {Q : Value → Shared → Prop} (hx : h.get? it = some (liO' l i)) (hq : Q (.ref h.objs.size) ⟨h.push (mwO it), g, d, t + 1, os⟩) :
    wpAny (model prog w) A (getAttr (.ref it) "__next__" expr) Q E ⟨h, g, d, t, os⟩ := by
  unfold getAttr
  repeat (any_goals (first | assumption | with_reducible apply next_by hx | wp_step))
theorem bound_check (a : Value) : checkBoundCall "list_iterator.__next__" ⟨[a], []⟩ = pure () := by first | kernel_rfl | rfl
theorem mw_call {mw : Addr} {R : Result → Shared → Prop} {s : Shared} (hm : s.heap.get? mw = some (mwO it)) (hq : codeAny (model prog w) A (.builtin "list_iterator.__next__" ⟨[.ref it], []⟩) R s) :
    codeAny (model prog w) A (.call (.ref mw) ⟨[], []⟩) R s := by
  obtain ⟨hh, g, dr, t, os⟩ := s
  refine codeAny_of_tree ?_
  show wpAny _ _ (callAny (.ref mw) _) _ _ _
  dsimp only at hm
  refine nd_load hm ?_
  show wpAny _ _ (do checkBoundCall "list_iterator.__next__" ⟨[.ref it], []⟩; return ← again (.builtin "list_iterator.__next__" ⟨[.ref it], []⟩)) _ _ _
  rw [bound_check]
  exact wpAny_bind (wpAny_pure (wpAny_bind (wpAny_pure (wpAny_pure ⟨Code.quiet_builtin _ (by decide +kernel), hq⟩))))
theorem mw_item {mw : Addr} {s : Shared} {items : Array Value} {x : Value} {Q : Value → Shared → Prop} (hm : s.heap.get? mw = some (mwO it)) (hit : s.heap.IsListIter it l i)
    (hl : s.heap.IsList l items) (hx : items[i]? = some x) (hQ : ∀ h', h'.IsListIter it l (i + 1) → Heap.SameBut it s.heap h' → Q x { s with heap := h' }) :
    wpAny (model prog w) A (call (.ref mw) []) Q E s := by
  obtain ⟨o, ho, hc, hd⟩ := id hit
  obtain ⟨ol, hol, _, nl, hdl⟩ := hl
  refine wpAny_call (mw_call hm (codeAny_builtin entry_listiter_next ?_))
  show wpAny _ _ (field (.ref it) 0 >>= _) _ _ s
  refine wpAny_bind (wpAny_field ho hd (x := .ref l) rfl ?_)
  show wpAny _ _ (if (Value.ref l == Value.none) = true then _ else _) _ _ s
  rw [if_neg (show ¬ ((Value.ref l == Value.none) = true) from Bool.false_ne_true)]
  show wpAny _ _ (field (.ref it) 1 >>= _) _ _ s
  refine wpAny_bind (wpAny_field ho hd (x := .int i 0) rfl ?_)
  show wpAny _ _ (seqItems? (.ref l) >>= _) _ _ s
  refine wpAny_bind (wpAny_seqItems hol hdl ?_)
  simp only [Int.toNat_natCast, hx]
  refine wpAny_bind (wpAny_setField ho hd (by simp) (wpAny_pure (hQ _ ?_ (Heap.SameBut.update ..))))
  exact ⟨_, Heap.get?_update_self _ ho (Obj.isFreed_of_fields (Obj.data_mapFields hd _)), (Obj.cls_mapFields ..).trans hc, by
    rw [Obj.data_mapFields hd]; simp [rawInt]⟩
theorem mw_end {mw : Addr} {s : Shared} {items : Array Value} {Q : Value → Shared → Prop} (hh : A.handled = none) (hm : s.heap.get? mw = some (mwO it)) (hit : s.heap.IsListIter it l i)
    (hl : s.heap.IsList l items) (hx : items[i]? = none)
    (hE : ∀ h' e, Heap.ExtBut it s.heap h' → (∃ o vs a0, h'.get? e = some o ∧ o.cls = .type "StopIteration" ∧ o.data = .fields vs ∧ vs[0]? = some a0 ∧ vs[1]? = some .none) → s.heap.get? e = none → E (.ref e) { s with heap := h' }) :
    wpAny (model prog w) A (call (.ref mw) []) Q E s := by
  obtain ⟨o, ho, hc, hd⟩ := id hit
  obtain ⟨ol, hol, _, nl, hdl⟩ := hl
  refine wpAny_call (mw_call hm (codeAny_builtin entry_listiter_next ?_))
  show wpAny _ _ (field (.ref it) 0 >>= _) _ _ s
  refine wpAny_bind (wpAny_field ho hd (x := .ref l) rfl ?_)
  show wpAny _ _ (if (Value.ref l == Value.none) = true then _ else _) _ _ s
  rw [if_neg (show ¬ ((Value.ref l == Value.none) = true) from Bool.false_ne_true)]
  show wpAny _ _ (field (.ref it) 1 >>= _) _ _ s
  refine wpAny_bind (wpAny_field ho hd (x := .int i 0) rfl ?_)
  show wpAny _ _ (seqItems? (.ref l) >>= _) _ _ s
  refine wpAny_bind (wpAny_seqItems hol hdl ?_)
  simp only [Int.toNat_natCast, hx]
  refine wpAny_bind (wpAny_rule (wpAny_bind (wpAny_setField ho hd (by simp) ?_)))
  show wpAny _ _ (newExc (.type "StopIteration") [] >>= _) _ _ _
  refine wpAny_bind ?_
  simp only [newExc, newTuple]
  refine wpAny_bind (wpAny_newObj_type ?_ (by size_fits))
  refine wpAny_bind (m := firstArgMember _ _) (wpAny_of_eq (a := Value.none) (by first | rfl | (simp only [firstArgMember]; rfl)) ?_)
  refine wpAny_newObj_type ?_ (by size_fits)
  simp only [raiseNew]
  refine wpAny_bind (wpAny_handled ?_)
  rw [show (A.under (.builtin "list_iterator.__next__" ⟨[.ref it], []⟩)).handled = none from hh]
  refine wpAny_bind (wpAny_pure (wpAny_throw ?_))
  refine hE _ _ (((Heap.SameBut.update ..).extBut.push _).push _) ⟨_, _, _, Heap.get?_push_size _ rfl, rfl, rfl, rfl, rfl⟩ ?_
  cases q : s.heap.get? _ with
  | none => rfl
  | some o => 
    have := Heap.lt_size q
    simp at this
    exact absurd this (Nat.not_lt.mpr (Nat.le_succ _))
end
end
section
section
variable {C : Cx} {m : Loc} {led : Led} {env : Env} {Q : Value → Loc → Led → Prop}
theorem r_postP {α : Type} {t : Sem α} {Q : α → Loc → Led → Prop} (h : T C m led t fun a m1 l1 => ∃ l', List.Perm l' l1 ∧ Q a m1 l') : T C m led t Q :=
  fun s P => h.run P fun a s' m' l' P' ⟨l2, hs, hq⟩ => ⟨m', l2, P'.perm hs, hq⟩
theorem r_nextAttr {it l : Addr} {i : Nat} {expr : Bool} (hit : Has C led it (liO l i)) (h : ∀ mw, Q (.ref mw) m ((mw, mwO it) :: led)) : T C m led (getAttr (.ref it) "__next__" expr) Q :=
  fun s P => next_attr (hit.get P) ⟨m, _, (P.alloc _).tk _, h _⟩
theorem r_iterB {l : Addr} {vs : List Value} {n : Nat} (hl : Has C led l (listO vs n)) (h : ∀ it, l ≠ it → Q (.ref it) m ((it, liO l 0) :: led)) : T C m led (call (.builtin "iter") [.ref l]) Q := fun s P => by
  refine call_function_entry (by decide +kernel) (by decide +kernel) kdk_entry_iter (kdk_args_iter _) ?_
  unfold Builtin.«iter»
  refine wpAny_bind (m := someArgs "iter" 1 2 _) (wpAny_of_eq (a := [Value.ref l]) (by first | rfl | kernel_rfl!) ?_)
  show wpAny _ _ (pyIter (.ref l) >>= _) _ _ _
  refine wpAny_bind (wpAny_pyIter_list (hl.isList P) ?_)
  exact wpAny_pure ⟨_, rfl, ⟨m, _, P.alloc _, h _ (Nat.ne_of_lt (Heap.lt_size (hl.get P)))⟩⟩
theorem r_mwItem {mw it l : Addr} {i n : Nat} {vs : List Value} {x : Value} {o : Obj} {pre post : Led} (hm : Has C led mw (mwO it)) (e : led = pre ++ (it, o) :: post) (hi : LiO l i o) (hl : Has C led l (listO vs n)) (hx : vs[i]? = some x)
    (h : ∀ o', LiO l (i + 1) o' → Q x m (pre ++ (it, o') :: post)) : T C m led (call (.ref mw) []) Q := fun s P => by
  have hit := Has.get (C := C) (led := led) (a := it) (o := o) (.inl (by rw [e]; simp)) P
  refine mw_item (hm.get P) ⟨o, hit, hi.1, hi.2⟩ (hl.isList P) (by simpa using hx) fun h' ⟨o', ho', hc', hd'⟩ hsb => ?_
  subst e
  exact ⟨m, _, P.movedAt ho' (fun b x hb e => hsb.extBut b x hb e) s.toks, h o' ⟨hc', hd'⟩⟩
theorem r_pop {l : Addr} {vs : List Value} {n : Nat} {y : Value} {pre post : Led} (e : led = pre ++ (l, listO (vs ++ [y]) n) :: post) (hz : vs.length + 1 ≤ sizeLine) (h : ∀ n', Q y m (pre ++ (l, listO vs n') :: post)) :
    T C m led (call (.builtin "list.pop") [.ref l]) Q := fun s P => by
  subst e
  have hg := P.get (a := l) (o := listO (vs ++ [y]) n) (by simp)
  refine call_meets PySem.F.slot_list_pop (T := "list") ⟨_, hg, rfl⟩ PySem.F.entry_list_pop (PySem.F.args_list_pop_1 _) (PySem.MeetsSeq.list_pop_last l (vs ++ [y]).toArray n y (by simp) (by simp; exact hz)) ⟨hg, ?_⟩
  obtain ⟨n', e'⟩ : ∃ n', Obj.mapSeq (fun xs => xs.eraseIdxIfInBounds ((vs ++ [y]).toArray.size - 1)) (listO (vs ++ [y]) n) = listO vs n' := by
    have e1 : (vs ++ [y]).toArray.eraseIdxIfInBounds ((vs ++ [y]).toArray.size - 1) = vs.toArray := by
      simp
      rw [List.eraseIdx_append_of_length_le (Nat.le_refl _)]
      simp
    show ∃ n', ({ cls := .type "list", data := .seq ((vs ++ [y]).toArray.eraseIdxIfInBounds ((vs ++ [y]).toArray.size - 1)) _ } : Obj) = listO vs n'
    rw [e1]
    exact ⟨_, rfl⟩
  exact ⟨m, _, P.update _ e' rfl, h n'⟩
theorem r_gmPop {l : Addr} {vs : List Value} {n : Nat} {pl : Sem Bool} {Q : Value × List Value → Loc → Led → Prop} (hl : Has C led l (listO vs n)) (h : Q (.builtin "list.pop", [.ref l]) m led) : T C m led (getMethod (.ref l) "pop" pl) Q :=
  r_gmList hl PySem.F.slot_list_pop PySem.F.type_list_pop h
theorem r_addL {l b : Addr} {vs ws : List Value} {n k : Nat} (hl : Has C led l (listO vs n)) (hb : Has C led b (listO ws k)) (hz : vs.length + ws.length ≤ sizeLine) (h : ∀ a, Q (.ref a) m ((a, listO (vs ++ ws) 0) :: led)) :
    T C m led (binaryOp .Add (.ref l) (.ref b)) Q := fun s P =>
  add_lists P.fr P.news (hl.isList P) (hb.isList P) (fun h' F N => ⟨m, _, P.ofN (Nat.le_refl _) F N s.toks, h _⟩) hz
theorem r_Delete {o i : Expr} {pos pos' : Pos} {Q : Flow → Loc → Led → Prop} (h : T C m led (eval o env) fun ov m1 l1 => T C m1 l1 (eval i env) fun iv m2 l2 => T C m2 l2 (delItem ov iv) fun _ => Q .next) : T C m led (exec (.Delete [.Subscript o i pos'] pos) env) Q :=
  fun s P => wpAny_Delete (wpAny_deleteEach_cons (wpAny_delete_Subscript (h.run P fun v s1 m1 l1 P1 h1 => h1.run P1 fun ov s2 m2 l2 P2 h2 => h2.run P2 fun _ s3 m3 l3 P3 h3 => wpAny_deleteEach_nil ⟨m3, l3, P3, h3⟩)))
end
def SetO {K : Type} [DecidableEq K] {w : World} (knd : PySem.KeyKind PG w K) (S : K → Bool) (n : Nat) (o : Obj) : Prop :=
  ∃ es ep t, o.ExactSet ∧ o.data = .set es ep t ∧ ElemsOf knd es.toList ∧ (∀ k, S k = true ↔ ∃ e ∈ es.toList, knd.is k e.2 = true) ∧ es.size < scanBound ∧ t.fits es.size = true ∧ es.size = n
section
variable {C : Cx} {m : Loc} {led : Led} {env : Env} {K : Type} [DecidableEq K] {knd : PySem.KeyKind PG C.W.w K} {d : Addr} {o : Obj} {kvs : List (K × Value)} {k : K} {key : Value}
theorem r_dDel {pre post : Led} {Q : Unit → Loc → Led → Prop} (e : led = pre ++ (d, o) :: post) (hd : o.IsDictOf knd kvs) (hk : knd.is k key = true) (hz : kvs.length ≤ sizeLine) (hs : (valueAt kvs k).isSome = true)
    (h : ∀ o', o'.IsDictOf knd (without kvs k) → Q () m (pre ++ (d, o') :: post)) : T C m led (delItem (.ref d) key) Q := fun s P => by
  subst e
  have hD : s.heap.DictOf knd d kvs := Heap.dictOf_iff.mpr ⟨o, P.get (by simp), hd⟩
  refine wpAny_delItem_slot (T := "dict") hD.typeIs (by decide) PySem.F.slot_dict_delitem (call_meetsIn PySem.F.slot_dict_delitem hD.typeIs PySem.F.entry_dict_delitem (PySem.F.args_dict_delitem_2 _ _) (meets_dict_delitem_pairs knd d hk) ⟨kvs, hD, hz, hs, fun h' hm hsb => ?_⟩)
  obtain ⟨o', ho', hd'⟩ := Heap.dictOf_iff.mp hm
  exact ⟨m, _, P.movedAt ho' (fun b x hb e => hsb.extBut b x hb e) _, h o' hd'⟩
theorem setOf_of {S : K → Bool} {n : Nat} {s : Shared} {a : Addr} (hg : s.heap.get? a = some o) (h : SetO knd S n o) : s.heap.SetOf knd a S n := let ⟨es, ep, t, r⟩ := h; ⟨o, es, ep, t, hg, r⟩
theorem r_newSet {Q : Value → Loc → Led → Prop} (knd : PySem.KeyKind PG C.W.w K) (h : ∀ a o, SetO knd (fun _ => false) 0 o → Q (.ref a) m ((a, o) :: led)) : T C m led (call (.type "set") []) Q := fun s P => by
  refine call_set_0 fun b => ⟨m, _, P.alloc _, h _ _ ⟨#[], 0, _, ⟨rfl, rfl, rfl⟩, rfl, fun e he => by simp at he, fun k => by simp, by decide, rfl, rfl⟩⟩
theorem r_inSet {S : K → Bool} {n : Nat} {a : Addr} {Q : Value → Loc → Led → Prop} (hl : Has C led a o) (hd : SetO knd S n o) (hk : knd.is k key = true) (hsc : key.scannable = true) (h : Q (.bool (S k)) m led) : T C m led (compareOp .In key (.ref a)) Q :=
  fun s P => wpAny_inSet_of hk hsc (setOf_of (hl.get P) hd) ⟨m, led, P.tk _, h⟩
theorem r_gmAdd {S : K → Bool} {n : Nat} {a : Addr} {pl : Sem Bool} {Q : Value × List Value → Loc → Led → Prop} (hl : Has C led a o) (hd : SetO knd S n o) (h : Q (.builtin "set.add", [.ref a]) m led) : T C m led (getMethod (.ref a) "add" pl) Q :=
  fun s P => getMethod_set_add (setOf_of (hl.get P) hd) ⟨m, led, P, h⟩
theorem r_setAdd {S : K → Bool} {n : Nat} {a : Addr} {pre post : Led} {Q : Value → Loc → Led → Prop} (e : led = pre ++ (a, o) :: post) (hd : SetO knd S n o) (hk : knd.is k key = true) (hsc : key.scannable = true) (hr : n + 1 < scanBound)
    (h : ∀ o' n', n' ≤ n + 1 → SetO knd (fun k' => S k' || decide (k' = k)) n' o' → Q .none m (pre ++ (a, o') :: post)) : T C m led (call (.builtin "set.add") [.ref a, key]) Q := fun s P => by
  subst e
  refine call_set_add hk hsc (setOf_of (P.get (a := a) (o := o) (by simp)) hd) hr fun h' hsb hS => ?_
  obtain ⟨o', es, ep, t, ho', r⟩ := hS
  exact ⟨m, _, P.movedAt ho' (fun b x hb e => hsb.extBut b x hb e) _, h o' _ (by split <;> omega) ⟨es, ep, t, r⟩⟩
end
end
section
def OutF (W : Wd) (β : Addr → Option Obj) : List Env → Prop
  | [] => True
  | e :: r => e.scope.kind ≠ .module ∧ (∃ f o, e.frame = some f ∧ W.h.get? f = none ∧ β f = some o ∧ ∀ vs, o.data ≠ .fields vs) ∧ OutF W β r
theorem OutF.up {W : Wd} {β β' : Addr → Option Obj} (hu : Up β β') : ∀ {l : List Env}, OutF W β l → OutF W β' l
  | [], _ => trivial
  | _ :: _, ⟨h1, ⟨f, o, h2, h3, h4, h5⟩, h6⟩ => let ⟨sl, q⟩ := hu f o h4; ⟨h1, ⟨f, _, h2, h3, q, h5⟩, OutF.up hu h6⟩
theorem OutF.mem {W : Wd} {β : Addr → Option Obj} : ∀ {l : List Env} {f : Addr}, OutF W β l → f ∈ l.filterMap (·.frame) → W.h.get? f = none ∧ ∃ o, β f = some o ∧ ∀ vs, o.data ≠ .fields vs
  | e :: r, f, ⟨_, ⟨f', o, h2, h3, h4, h5⟩, h6⟩, hm => by
    rw [List.filterMap_cons, h2] at hm
    rcases List.mem_cons.mp hm with rfl | hm
    · exact ⟨h3, o, h4, h5⟩
    · exact OutF.mem h6 hm
structure Frm (C : Cx) (env : Env) (outer : List Env) : Prop where
  fr : C.A.frames = some (env :: outer)
  loc : env.frame = some C.L
  kd : env.scope.kind ≠ .module
  out : OutF C.W C.β outer
  sz : C.W.h.objs.size ≤ C.L
structure Exc (C : Cx) (led : Led) (e : Addr) : Prop where
  nl : e ∉ led.map (·.1)
  nb : C.β e = none
  nL : e ≠ C.L
section
variable {C : Cx} {m : Loc} {led : Led} {env : Env} {outer : List Env} {s : Shared} {e : Addr}
theorem Frm.onE {E' : Value → Shared → Prop} (F : Frm C env outer) : Frm (C.e E') env outer := ⟨F.fr, F.loc, F.kd, F.out, F.sz⟩
theorem funF {W : Wd} {β : Addr → Option Obj} {h base : Heap} (hk : Keeps W β h) : ∀ {l : List Env}, OutF W β l → (∀ f ∈ l.filterMap (·.frame), base.get? f = none) → h.FunFrames base l
  | [], _, _ => trivial
  | e :: r, ⟨h1, ⟨f, o, h2, h3, h4, h5⟩, h6⟩, hb => by
    obtain ⟨sl, q⟩ := hk.2 f o h4
    rw [List.filterMap_cons, h2] at hb
    exact ⟨h1, ⟨f, _, h2, hb f (.head _), q, h5⟩, funF hk h6 fun x hx => hb x (.tail _ hx)⟩
theorem Frm.frames (F : Frm C env outer) (P : Pt C.W C.β C.L m led s) {base : Heap} (hb : ∀ f ∈ (env :: outer).filterMap (·.frame), base.get? f = none) : s.heap.FunFrames base (env :: outer) := by
  rw [List.filterMap_cons, F.loc] at hb
  obtain ⟨oL, es, ep, hL, hd, r⟩ := P.ns
  exact ⟨F.kd, ⟨C.L, oL, F.loc, hb _ (.head _), hL, fun vs q => by rw [hd] at q; cases q⟩, funF P.keep F.out fun x hx => hb x (.tail _ hx)⟩
theorem Pt.noted (F : Frm C env outer) (X : Exc C led e) (P : Pt C.W C.β C.L m led s) {h' : Heap} (hB : (hideAll s.heap (e :: (env :: outer).filterMap (·.frame))).StaysIn h') (hU : s.heap.UpToSlots h') :
    Pt C.W C.β C.L m led { s with heap := h' } := by
  have hL0 : C.W.h.get? C.L = none := by
    cases q : C.W.h.get? C.L with
    | none => rfl
    | some o => have := P.base _ _ q; rw [P.off] at this; cases this
  have he0 : C.W.h.get? e = none := by
    cases q : C.W.h.get? e with
    | none => rfl
    | some o => have := P.base _ _ q; rw [X.nb] at this; cases this
  have hfs : (env :: outer).filterMap (·.frame) = C.L :: outer.filterMap (·.frame) := by rw [List.filterMap_cons, F.loc]
  rw [hfs] at hB
  have ex : ∀ b o, b ≠ e → b ≠ C.L → b ∉ outer.filterMap (·.frame) → s.heap.get? b = some o → h'.get? b = some o := fun b o h1 h2 h3 q => hB b o (hideAll_get _ q (by simp only [List.mem_cons, not_or]; exact ⟨h1, h2, h3⟩))
  refine ⟨P.base, ⟨fun a o q => ?_, fun a o q => ?_⟩, P.off, hU.ns P.ns, fun p hp => ⟨?_, (P.own p hp).2⟩, P.nd, P.gens, P.os⟩
  · refine ex a o (fun z => ?_) (fun z => ?_) (fun z => ?_) (P.all a o q)
    · rw [z, he0] at q; cases q
    · rw [z, hL0] at q; cases q
    · rw [(F.out.mem z).1] at q; cases q
  · obtain ⟨sl, hg⟩ := P.keep.2 a o q
    by_cases hz : a ∈ outer.filterMap (·.frame)
    · obtain ⟨_, o2, h2, h3⟩ := F.out.mem hz
      rw [q] at h2
      cases h2
      obtain ⟨sl2, h4⟩ := hU a _ hg h3
      exact ⟨sl2, h4⟩
    · refine ⟨sl, ex a _ (fun z => ?_) (fun z => ?_) hz hg⟩
      · rw [z, X.nb] at q; cases q
      · rw [z, P.off] at q; cases q
  · refine ex p.1 p.2 (fun z => X.nl (z ▸ List.mem_map_of_mem hp)) (P.own p hp).2.1 (fun z => ?_) (P.own p hp).1
    obtain ⟨_, o2, h2, _⟩ := F.out.mem z
    rw [(P.own p hp).2.2] at h2; cases h2
def Stopped (C : Cx) (K : Loc → Led → Prop) (v : Value) (s : Shared) : Prop :=
  ∃ e m1 l1, v = .ref e ∧ Pt C.W C.β C.L m1 l1 s ∧ Exc C l1 e ∧ (∃ o vs a0, s.heap.get? e = some o ∧ o.cls = .type "StopIteration" ∧ o.data = .fields vs ∧ vs[0]? = some a0 ∧ vs[1]? = some .none) ∧ K m1 l1
theorem r_TryStop {body suite : List Stmt} {b₀ : Stmt} {np hpos pos : Pos} {Q : Flow → Loc → Led → Prop} (F : Frm C env outer) (K : Loc → Led → Prop)
    (hb : T (C.e (Stopped C K)) m led (execs body env) fun f m1 l1 => match f with | .next => Q .next m1 l1 | f => Q f m1 l1)
    (hk : ∀ e E2 m1 l1, K m1 l1 → T ⟨C.W, C.A.mark (some (.ref e)), E2, C.β, C.L⟩ m1 l1 (execs (b₀ :: suite) env) Q)
    (h1 : env.scope.kind = .function) (h2 : env.kindOf "StopIteration" = some .globalImplicit) (h3 : env.globals = mainGlobals) (h4 : env.builtins = builtinsNs)
    (h5 : nsIn (hd.heap_1 C.W.w.params) mainGlobals "StopIteration" = some none) :
    T C m led (exec (.Try body [.ExceptHandler (some (.Name "StopIteration" np)) none (b₀ :: suite) hpos] [] [] pos) env) Q := fun s P => by
  refine wpAny_Try_except (wpAny_mono (hb s P) (fun f s1 ⟨m1, l1, P1, hq⟩ => ?_) fun v s1 hs => ?_)
  · cases f with
    | next => exact wpAny_pure ⟨m1, l1, P1, hq⟩
    | _ => exact ⟨m1, l1, P1, hq⟩
  · obtain ⟨e, m1, l1, rfl, P1, X, ⟨oe, vs, a0, ho, hcl, hd, hv0, hv1⟩, hK⟩ := hs
    have hfr := F.frames P1 (base := hideAll s1.heap (e :: (env :: outer).filterMap (·.frame))) fun f hf => hideAll_none _ (.tail _ hf)
    have hen : (hideAll s1.heap (e :: (env :: outer).filterMap (·.frame))).get? e = none := hideAll_none _ (.head _)
    have hst : (hideAll s1.heap (e :: (env :: outer).filterMap (·.frame))).StaysIn s1.heap := fun b o q => of_hideAll _ q
    unfold noteFrame
    simp only [F.loc]
    refine wpAny_bind (wpAny_field ho hd hv1 ?_)
    rw [if_neg (by decide)]
    refine wpAny_entryW F.fr hfr F.loc ho hst hen hd (Array.getElem?_eq_some_iff.mp hv1).1 hv0 fun h2' ⟨k1, k2, k3, k4⟩ => ?_
    refine wpAny_landsW (L := C.L) (s := { s1 with heap := h2' }) ⟨k1, hen, k2, k3⟩ fun h3' fl3 u3 => ?_
    have U3 : s1.heap.UpToSlots h3' := Heap.UpToSlots.trans k4 u3
    have P3 := Pt.noted F X P1 fl3.1 U3
    obtain ⟨ob, hob, hobc⟩ := fl3.there
    refine wpAny_handleBy_builtin (X := "StopIteration") (T := "StopIteration") (b := true) (by rw [isSubtype_type]; kernel_rfl) (by first | decide +kernel | (rw [isSubtype_type]; kernel_rfl)) (by rw [isSubtype_type]; kernel_rfl) ?_
    refine Calls.Name_function_global h1 h2 (Calls.loadGlobal_builtin (env := env) (v := .type "StopIteration") (h3 ▸ P3.T.g) (mg_none_of P3.X P3.T.g h5) (h4 ▸ P3.T.b) ((P3.T.builtins _ (by decide)).trans (by boot_by_name)) ?_) (by decide)
    refine ⟨rfl, ⟨ob, hob, by rw [hobc, hcl]⟩, ?_⟩
    rw [if_pos rfl]
    refine lands_againW fl3 fun h6 fl6 u6 => ?_
    have P6 := Pt.noted F X P1 fl6.1 (U3.trans u6)
    exact hk e _ m1 l1 hK _ P6
end
section
variable {C : Cx} {m : Loc} {led : Led} {env : Env} {Q : Value → Loc → Led → Prop}
theorem r_mwEnd {mw it l : Addr} {i n : Nat} {vs : List Value} {o : Obj} {pre post : Led} {K : Loc → Led → Prop} (hh : C.A.handled = none) (hm : Has C led mw (mwO it)) (e : led = pre ++ (it, o) :: post) (hi : LiO l i o) (hl : Has C led l (listO vs n)) (hx : vs.length ≤ i)
    (h : K m (pre ++ post)) : T (C.e (Stopped C K)) m led (call (.ref mw) []) Q := fun s P => by
  have hit := Has.get (C := C) (led := led) (a := it) (o := o) (.inl (by rw [e]; simp)) P
  refine mw_end hh (hm.get P) ⟨o, hit, hi.1, hi.2⟩ (hl.isList P) (by simp; exact hx) fun h' x hk ho hnew => ?_
  subst e
  have hp : List.Perm ((it, o) :: (pre ++ post)) (pre ++ (it, o) :: post) := List.perm_middle.symm
  have P' := (P.perm hp).gone (fun b y hb q => hk b y hb q) s.toks
  refine ⟨x, m, pre ++ post, rfl, P', ⟨fun hm => ?_, ?_, fun z => ?_⟩, ho, h⟩
  · obtain ⟨p, hp', ep⟩ := List.mem_map.mp hm
    have := (P.own p (by rcases List.mem_append.mp hp' with q | q <;> simp [q])).1
    rw [ep, hnew] at this; cases this
  · cases q : C.β x with
    | none => rfl
    | some y => obtain ⟨sl, q2⟩ := P.keep.2 _ _ q; rw [hnew] at q2; cases q2
  · obtain ⟨oL, _, _, hL, _⟩ := P.ns
    rw [← z, hnew] at hL; cases hL
end
end
section
theorem seqItems_none : seqItems? Value.none = pure none := by rfl
theorem bind_var2 {fd : FuncData} {a1 a2 a3 : Arg} {v1 v2 : Value} {vs : List Value} (hp : fd.params = ⟨[], [a1, a2], some a3, [], [], none, []⟩) (hdef : fd.defaults = .none) (hne : (a2.arg == a1.arg) = false) :
    bindArgs fd ⟨v1 :: v2 :: vs, []⟩ = (do let tu ← newTuple vs; pure [(a1.arg, v1), (a2.arg, v2), (a3.arg, tu)]) := by
  unfold bindArgs
  rw [hp, hdef, seqItems_none]
  simp [hne, List.lookup]
theorem bind_var1 {fd : FuncData} {a1 a3 : Arg} {v1 : Value} {vs : List Value} (hp : fd.params = ⟨[], [a1], some a3, [], [], none, []⟩) (hdef : fd.defaults = .none) :
    bindArgs fd ⟨v1 :: vs, []⟩ = (do let tu ← newTuple vs; pure [(a1.arg, v1), (a3.arg, tu)]) := by
  unfold bindArgs
  rw [hp, hdef, seqItems_none]
  simp [List.lookup]
section
variable {C : Cx} {m : Loc} {led : Led} {env : Env}
theorem r_Named {x : Str} {px pos : Pos} {value : Expr} {Q : Value → Loc → Led → Prop} (h : T C m led (eval value env) fun v m1 l1 => T C m1 l1 (storeName env x v) fun _ => Q v) : T C m led (eval (.NamedExpr (.Name x px) value pos) env) Q :=
  fun s P => wpAny_NamedExpr (h.run P fun v s1 m1 l1 P1 h1 => wpAny_assign_Name (h1 s1 P1))
theorem r_is {a b : Value} {Q : Value → Loc → Led → Prop} (hp : plainIs a b = true) (h : Q (.bool (a == b)) m led) : T C m led (compareOp .Is a b) Q := fun s P => wpAny_is_plain hp ⟨m, led, P, h⟩
theorem r_isnt {a b : Value} {Q : Value → Loc → Led → Prop} (hp : plainIs a b = true) (h : Q (.bool (!(a == b))) m led) : T C m led (compareOp .IsNot a b) Q := fun s P => wpAny_isNot_plain hp ⟨m, led, P, h⟩
theorem r_asSub {o i : Expr} {pos : Pos} {v : Value} {Q : Unit → Loc → Led → Prop} (h : T C m led (eval o env) fun ov m1 l1 => T C m1 l1 (eval i env) fun iv m2 l2 => T C m2 l2 (setItem ov iv v) Q) : T C m led (assign (.Subscript o i pos) env v) Q := by
  rw [arm_assign_Subscript]
  refine r_bind (r_holding (h.mono fun ov m1 l1 h1 => r_bind (r_holding (h1.mono fun iv m2 l2 h2 => r_bind (r_standAt (r_bind (r_holding (h2.mono fun _ m3 l3 h3 => ?_))))))))
  exact fun s P => wpAny_release ⟨m3, l3, P, h3⟩
theorem r_Assign2 {t₁ t₂ value : Expr} {pos : Pos} {Q : Flow → Loc → Led → Prop} (h : T C m led (eval value env) fun v m1 l1 => T C m1 l1 (assign t₁ env v) fun _ m2 l2 => T C m2 l2 (assign t₂ env v) fun _ => Q .next)
    (he : (assignEach [t₁, t₂] env).map (·.2) = [assign t₁ env, assign t₂ env] := by rfl) (hw : swappedStores [t₁, t₂] value env = pure none := by rfl) : T C m led (exec (.Assign [t₁, t₂] value pos) env) Q :=
  fun s P => wpAny_Assign_two (h.run P fun v s1 m1 l1 P1 h1 => h1.run P1 fun _ s2 m2 l2 P2 h2 => h2 s2 P2) he hw
theorem r_AugAttr {o value : Expr} {attr : Str} {tpos pos : Pos} {op : Operator} {Q : Flow → Loc → Led → Prop}
    (h : T C m led (eval o env) fun ov m1 l1 => T C m1 l1 (getAttr ov attr true) fun old m2 l2 => T C m2 l2 (eval value env) fun v m3 l3 => T C m3 l3 (inplaceOp op old v) fun new m4 l4 => T C m4 l4 (setAttr ov attr new) fun _ => Q .next) :
    T C m led (exec (.AugAssign (.Attribute o attr tpos) op value pos) env) Q :=
  fun s P => wpAny_AugAssign_AttributeAny (h.run P fun v s1 m1 l1 P1 h1 => h1.run P1 fun _ s2 m2 l2 P2 h2 => h2.run P2 fun _ s3 m3 l3 P3 h3 => h3.run P3 fun _ s4 m4 l4 P4 h4 => h4 s4 P4)
def Apart (C : Cx) (l1 : Led) (v : Value) (vs : List Value) : Prop := ∃ a, v = .ref a ∧ ((∃ n, Has C l1 a (listO vs n)) ∨ Has C l1 a (tupO vs)) ∧ vs.length ≤ sizeLine
theorem Apart.star {l1 : Led} {v : Value} {vs : List Value} {s : Shared} {Q : List Value → Shared → Prop} (h : Apart C l1 v vs) (P : Pt C.W C.β C.L m l1 s) (k : ∀ s', Pt C.W C.β C.L m l1 s' → Q vs s') : StarOf (Mo C.W) C.A C.E v Q s := by
  obtain ⟨a, rfl, h, hz⟩ := h
  have key : ∀ (T : String) (o : Obj) (n : Nat), (T = "list" ∨ T = "tuple") → s.heap.get? a = some o → o.cls = .type T → o.data = .seq vs.toArray n → StarOf (Mo C.W) C.A C.E (.ref a) Q s := by
    intro T o n hT hg hc hd
    have hne : a ≠ C.L := fun e => by
      obtain ⟨oL, es, ep, hL, hdL, _⟩ := P.ns
      rw [← e, hg] at hL; cases hL; rw [hd] at hdL; cases hdL
    exact star_seq P.fr P.news (mem_allN.mpr ⟨hg, hne⟩) hc hd hT (by simp) (by simpa using hz) fun h' F N => k _ (P.ofN0 F N s.toks)
  rcases h with ⟨n, h⟩ | h
  · exact key "list" _ n (.inl rfl) (h.get P) rfl rfl
  · exact key "tuple" _ _ (.inr rfl) (h.get P) rfl rfl
theorem r_argStar {e : Expr} {rest : List Expr} {pos p : Pos} {Q : List Value → Loc → Led → Prop}
    (h : T C m led (eval e env) fun v m1 l1 => ∃ vs, Apart C l1 v vs ∧ T C m1 l1 (spliced (backTo pos (starEach rest env))) fun ws => Q (vs ++ ws)) : T C m led (spliced (backTo pos (starEach (.Starred e p :: rest) env))) Q :=
  fun s P => items_star (h.run P fun v s1 m1 l1 P1 ⟨vs, ha, h1⟩ => ha.star P1 fun s2 P2 => h1 s2 P2)
theorem r_cwS2 {pos : Pos} {f : Value} {first : List Value} {e : Expr} {rest : List Expr} {Q : Value → Loc → Led → Prop} (hf : keepIn (hd.heap_1 C.W.w.params) f = true)
    (h : T C m led (spliced (backTo pos (starEach (e :: rest) env))) fun vs m1 l1 => T C m1 l1 (call f (first ++ vs)) Q)
    (h1 : starEach (e :: rest) env = (false, eval e env) :: starEach rest env := by rfl) (h2 : (List.any (backTo pos (starEach rest env)) fun x => x.1) = true := by rfl) :
    T C m led (callWith pos f first (backTo pos (starEach (e :: rest) env)) []) Q :=
  fun s P => callWith_S2 (h₀ := C.W.h) C.W.X hf (h.run P fun v s1 m1 l1 P1 h1 => ⟨P1.X, h1 s1 P1⟩) h1 h2
theorem r_cwS {pos p : Pos} {f : Value} {first : List Value} {e : Expr} {Q : Value → Loc → Led → Prop} (hf : keepIn (hd.heap_1 C.W.w.params) f = true)
    (h : T C m led (eval e env) fun v m1 l1 => ∃ vs, Apart C l1 v vs ∧ T C m1 l1 (call f (first ++ vs)) Q) : T C m led (callWith pos f first (backTo pos (starEach [.Starred e p] env)) []) Q :=
  fun s P => callWith_S (h₀ := C.W.h) C.W.X hf (h.run P fun v s1 m1 l1 P1 ⟨vs, ha, h1⟩ => ha.star P1 fun s2 P2 => ⟨P2.X, h1 s2 P2⟩)
theorem r_bindVar2 {fd : FuncData} {a1 a2 a3 : Arg} {v1 v2 : Value} {vs : List Value} {Q : List (Str × Value) → Loc → Led → Prop} (hp : fd.params = ⟨[], [a1, a2], some a3, [], [], none, []⟩) (hdef : fd.defaults = .none) (hne : (a2.arg == a1.arg) = false) (hz : vs.length ≤ sizeLine)
    (h : ∀ tu, Q [(a1.arg, v1), (a2.arg, v2), (a3.arg, .ref tu)] m ((tu, tupO vs) :: led)) : T C m led (bindArgs fd ⟨v1 :: v2 :: vs, []⟩) Q := by
  rw [bind_var2 hp hdef hne]
  exact r_bind (r_newTuple hz fun tu => r_pure (h tu))
theorem r_bindVar1 {fd : FuncData} {a1 a3 : Arg} {v1 : Value} {vs : List Value} {Q : List (Str × Value) → Loc → Led → Prop} (hp : fd.params = ⟨[], [a1], some a3, [], [], none, []⟩) (hdef : fd.defaults = .none) (hz : vs.length ≤ sizeLine)
    (h : ∀ tu, Q [(a1.arg, v1), (a3.arg, .ref tu)] m ((tu, tupO vs) :: led)) : T C m led (bindArgs fd ⟨v1 :: vs, []⟩) Q := by
  rw [bind_var1 hp hdef]
  exact r_bind (r_newTuple hz fun tu => r_pure (h tu))
structure FTOk (C : Cx) (env : Env) (x : Str) (body orelse : List Stmt) (Q : Flow → Loc → Led → Prop) (v : Value) (m1 : Loc) (l1 : Led) (l : Addr) (vs : List Value) (J : Nat → Loc → Led → Prop) : Prop where
  e : v = .ref l
  hl : Has C l1 l (tupO vs)
  hdep : ∀ i m l', J i m l' → Has C l' l (tupO vs)
  hJ : J 0 m1 l1
  turn : ∀ E' I o i v m l, vs[i]? = some v → J i m l → T (C.e E') m ((I, o) :: l) (storeName env x v) fun _ m2 l2 => T (C.e E') m2 l2 (execs body env) (TurnF I o (J (i + 1)) Q)
  done : ∀ E' m l, J vs.length m l → T (C.e E') m l (execs orelse env) Q
theorem r_ForTup {x : Str} {px pos : Pos} {iter : Expr} {body orelse : List Stmt} {Q : Flow → Loc → Led → Prop} (hh : C.A.handled = none)
    (h : T C m led (eval iter env) fun v m1 l1 => ∃ l vs J, FTOk C env x body orelse Q v m1 l1 l vs J)
    (hs : ∀ x, foldedSetIterable iter env x = pure x := by intro _; rfl) : T C m led (exec (.For (.Name x px) iter body orelse pos) env) Q := by
  refine r_ForIt (h.mono fun v m1 l1 h1 => ?_) hs
  obtain ⟨l, vs, J, F⟩ := h1
  obtain rfl := F.e
  refine r_iterTup F.hl fun it hne => ?_
  refine ⟨it, vs.length, _, _, _, _, l1, J, rfl, rfl, (it_tup hh hne).it, ⟨rfl, rfl⟩, F.hdep, F.hJ, ?_, F.done⟩
  rintro E' i v o' ex m l' hi ⟨hv, rfl⟩ _ hj
  refine r_letName (r_asName ((F.turn E' it o' i v m l' hv hj).mono fun _ m2 l2 h2 => h2.mono fun f m3 l3 h3 => ?_))
  cases f <;> exact h3
end
end
section
section
variable {C : Cx} {m : Loc} {led : Led} {env : Env}
theorem r_seqItems {a : Addr} {vs : List Value} {Q : Option (Array Value) → Loc → Led → Prop} (h : Has C led a (tupO vs)) (k : Q (some vs.toArray) m led) : T C m led (seqItems? (.ref a)) Q :=
  fun s P => wpAny_seqItems (h.get P) rfl ⟨m, led, P, k⟩
theorem r_bindD2 {fd : FuncData} {a1 a2 : Arg} {de : Expr} {v1 v2 dv : Value} {a : Addr} {Q : List (Str × Value) → Loc → Led → Prop} (hp : fd.params = ⟨[], [a1, a2], none, [], [], none, [de]⟩) (hdef : fd.defaults = .ref a) (hne : (a2.arg == a1.arg) = false) (ht : Has C led a (tupO [dv]))
    (h : Q [(a1.arg, v1), (a2.arg, v2)] m led) : T C m led (bindArgs fd ⟨[v1, v2], []⟩) Q := by
  unfold bindArgs
  rw [hp, hdef]
  simp only [List.map_cons, List.map_nil, List.nil_append, List.length_cons, List.length_nil, List.forIn_nil, pure_bind]
  refine r_bind (r_seqItems ht ?_)
  simp [hne, List.lookup]
  exact r_pure h
theorem r_callClsS {Q : Value → Loc → Led → Prop} {cl fI : Addr} {args : List Value} {name qual : Str} {params : Arguments} {body : List Stmt} {scope : Scope} {dV kV doc pm cdv ct oc : Value} {an od : Option Addr} {osl : Array (Option Value)} {k : Nat}
    (R : Room C (k + 2)) (hm : makesIn (hd.heap_1 C.W.w.params) cl = true) (hi : findIn (hd.heap_1 C.W.w.params) (.ref cl) "__init__" = some (some (.ref fI))) (hf : isFn (hd.heap_1 C.W.w.params) (.ref fI) = true)
    (ho : (hd.heap_1 C.W.w.params).lookup fI = some ⟨oc, od, .func (fnOf name qual params body scope dV kV doc pm an cdv ct), osl⟩) (hcd : codeIn (hd.heap_1 C.W.w.params) cdv qual = true)
    (hco : scope.isCoroutine = false) (hgen : scope.isGenerator = false) (hk : scope.kind = .function)
    (h : ∀ x dx A1 E1, T ⟨C.W, A1, E1, C.β, C.L⟩ m ((x, insO cl dx #[]) :: (dx, dictOf [] 0) :: led) (bindArgs (fnOf name qual params body scope dV kV doc pm an cdv ct) ⟨.ref x :: args, []⟩) fun binds m1 l1 => (∀ y ∈ binds, scope.names.lookup y.1 = some .local) ∧
      ∀ A' E' β' L', Room ⟨C.W, A', E', β', L'⟩ k → Up C.β β' →
      T ⟨C.W, A', E', β', L'⟩ (bindM binds fun _ => none) (cellLed (L' + 1) scope.names l1) (execs body (envOfC qual scope L' fI cdv)) fun fl _ led' => retv fl = .none ∧ ∃ l', List.Sublist l' led' ∧ Q (.ref x) m1 l') :
    T C m led (call (.ref cl) args) Q := fun s P => by
  have P1 := P.alloc (dictOf [] 0)
  have P2 := P1.alloc (insO cl s.heap.objs.size #[])
  rw [show ({ s with heap := s.heap.push (dictOf [] 0) } : Shared).heap.objs.size = s.heap.objs.size + 1 from Heap.size_push ..] at P2
  have h := h (s.heap.objs.size + 1) s.heap.objs.size
  obtain ⟨hh, g, d, t, os⟩ := s
  refine wpAny_call (make_core (makes_of P.X hm) (looks_findIn P.X hi) (fun self => bind_fn P.X self (beq_iff_eq.mp hf)) (.inl rfl) ?_)
  refine codeAny_call_function (fd := fnOf name qual params body scope dV kV doc pm an cdv ct) (body := body) (by have := R.d; show C.A.depth + 1 < recursionLimit; unfold recursionLimit; omega) (P2.X _ _ ho) rfl hco hgen rfl (codeRec_of P2.X hcd) ?_
  generalize hs0 : (⟨(hh.push emptyDict).push (instObj cl hh.objs.size), g, d, t, os⟩ : Shared) = s0
  have P1' : Pt C.W C.β C.L m ((hh.objs.size + 1, insO cl hh.objs.size #[]) :: (hh.objs.size, dictOf [] 0) :: led) s0 := hs0 ▸ P2
  refine T.run (C := ⟨C.W, _, _, C.β, C.L⟩) (h _ _) P1' fun binds s1 m1 l1 P1'' ⟨hloc, h1⟩ => ?_
  simp only [newFunctionEnv, Option.isSome_none, Bool.false_eq_true, if_false]
  refine wpAny_bind (wpAny_alloc ?_)
  refine wpAny_bind (wpAny_layCells _ (fun name kind cells => by cases hkc : kind == NameKind.cell <;> simp [hkc]) _ _ _ _ ?_)
  have hnone : s1.heap.get? s1.heap.objs.size = none := by
    cases q : s1.heap.get? s1.heap.objs.size with
    | none => rfl
    | some o => exact absurd (Heap.lt_size q) (Nat.lt_irrefl _)
  have P3 := (P1''.into (L' := s1.heap.objs.size) (m' := fun _ => none) (s' := { s1 with heap := s1.heap.push { cls := .type "frame", data := .dict #[] } }) hnone (Heap.Ns.new s1.heap (.type "frame")) (fun b o e => Heap.get?_push_of_some _ e) rfl rfl).cells scope.names
  have hsz : ({ s1 with heap := s1.heap.push { cls := .type "frame", data := .dict #[] } } : Shared).heap.objs.size = s1.heap.objs.size + 1 := Heap.size_push ..
  rw [hsz] at P3 ⊢
  refine wpAny_bind (bindAll (env := envOfC qual scope s1.heap.objs.size fI cdv) _ (fun _ _ _ => rfl) hk binds (fun _ => none) _ _ P3 (fun x hx => hloc x hx) fun s' P' _ => ?_)
  refine wpAny_pure ⟨P'.nolimit, codeAny_func ?_⟩
  refine (h1 _ _ _ s1.heap.objs.size ⟨?_, ?_, ?_⟩ P1''.up).run P' fun fl s'' m'' led'' P'' ⟨hv, l', hs, hq⟩ => ⟨hv, ⟨m1, l', (P1''.back P'').drop hs, hq⟩⟩
  · have := R.d; show C.A.depth + 1 + 1 + 2 * k < 1000; omega
  · have := R.u
    show (C.A.under (.builtin "type.__call__" ⟨.ref cl :: args, []⟩)).units + 3 + 100 * k < 9900
    have e : (C.A.under (.builtin "type.__call__" ⟨.ref cl :: args, []⟩)).units ≤ C.A.units + 100 := by
      have : (Code.builtin "type.__call__" ⟨.ref cl :: args, []⟩).cUnits ≤ 100 := by
        show 1 + 3 * (Code.builtin "type.__call__" ⟨.ref cl :: args, []⟩).frames ≤ 100
        have e : (Code.builtin "type.__call__" ⟨.ref cl :: args, []⟩).frames = 0 ∨ (Code.builtin "type.__call__" ⟨.ref cl :: args, []⟩).frames = 1 := by
          first | exact .inl rfl | exact .inr rfl | exact .inl (by kernel_rfl) | exact .inr (by kernel_rfl)
        omega
      exact Nat.add_le_add_left this _
    omega
  · exact R.h
end
end
section
theorem findObj_fn {K : Frag} {cl : Addr} {od : Obj} {name : Str} {a g : Value} (hh : hasDictIn K cl = true) (ha : findIn K (.ref cl) name = some (some a)) (hg : specialIn K a "__get__" = some (some g)) (ht : takesIn K a = some false) (hc : copiedNames.contains name = false) (hl : lookIn name od = some none) :
    findObj K cl (some od) name = some (.bind g a) := by
  obtain ⟨cd, hc', hd⟩ := any_some hh
  unfold findObj
  have ho : W.ownOf cd (some od) name = some none := by unfold W.ownOf; rw [if_pos hd]; exact hl
  rw [hc', Option.bind_some, ha, Option.bind_some]
  simp only [hg, ht, Option.bind_some, ho, hc, Bool.false_and, Bool.false_eq_true, if_false]
section
variable {C : Cx} {m : Loc} {led : Led} {env : Env} {x dx cl f q : Addr} {fs : List (Str × Value)} {o : Obj} {name : Str}
theorem r_getMeth {expr : Bool} {Q : Value → Loc → Led → Prop} (hx : Has C led x (insO cl dx #[])) (hdx : Has C led dx o) (hf : FieldsO fs o)
    (hg : plainGet (hd.heap_1 C.W.w.params) cl name = true) (hh : hasDictIn (hd.heap_1 C.W.w.params) cl = true) (ha : findIn (hd.heap_1 C.W.w.params) (.ref cl) name = some (some (.ref f))) (hn : specialIn (hd.heap_1 C.W.w.params) (.ref f) "__get__" = some (some (.builtin "function.__get__")))
    (ht : takesIn (hd.heap_1 C.W.w.params) (.ref f) = some false) (hty : typeIn (hd.heap_1 C.W.w.params) (.ref f) = some (.type "function")) (hc : copiedNames.contains name = false) (hl : (fs.find? fun p => decide (p.1 = name)) = none)
    (h : ∀ q, Q (.ref q) m ((q, methodObj (.ref f) (.ref x)) :: led)) : T C m led (getAttr (.ref x) name expr) Q := fun s P => by
  obtain ⟨es, n, rfl, hF⟩ := hf
  have hlk : lookIn name (dictOf es n) = some none := by rw [lookIn_dict, hF.get name, hl]; rfl
  exact get_bind P.X (inst_at hx hdx P) (plainGet_of hg).1 (findObj_fn hh ha hn ht hc hlk) (plainGet_of hg).2 (wpAny_call (fn_get (s := { s with toks := s.toks + 1 }) P.X hty (handed_on rfl ⟨m, _, (P.alloc _).tk _, h _⟩)))
theorem r_SCall {oe : Expr} {apos pos : Pos} {args : List Expr} {Q : Value → Loc → Led → Prop}
    (h : T C m led (eval oe env) fun ov m1 l1 => T C m1 l1 (getAttr ov name true) fun f m2 l2 => T C m2 l2 (callWith pos f [] (backTo pos (starEach args env)) []) Q)
    (he : eval (.Call (.Attribute oe name apos) args [] pos) env = (do
        let ov ← eval oe env
        standAt apos.atName
        let f ← holding [ov] (do pure (← getAttr ov name true, ([] : List Value)))
        callWith pos f.1 f.2 (backTo pos (starEach args env)) []) := by rfl) : T C m led (eval (.Call (.Attribute oe name apos) args [] pos) env) Q := by
  rw [he]
  exact r_bind (h.mono fun ov m1 l1 h1 => r_bind (r_standAt (r_bind (r_holding (r_bind (h1.mono fun f m2 l2 h2 => r_pure h2))))))
def Tc (C : Cx) (m : Loc) (led : Led) (c : Code) (Q : Value → Loc → Led → Prop) : Prop :=
  ∀ s, Pt C.W C.β C.L m led s → codeAny (Mo C.W) C.A c (fun r s' => match r with | .ok (.ret v) => ∃ m' led', Pt C.W C.β C.L m' led' s' ∧ Q v m' led' | .ok _ => False | .error e => C.E e s') s
theorem r_callMeth {v : Value} {vs : List Value} {Q : Value → Loc → Led → Prop} (hq : Has C led q (methodObj (.ref f) v)) (h : Tc C m led (.call (.ref f) ⟨v :: vs, []⟩) Q) : T C m led (call (.ref q) vs) Q := fun s P =>
  wpAny_call (method_call (hq.get P) (h s P))
theorem Tc.t {args : List Value} {Q : Value → Loc → Led → Prop} (h : Tc C m led (.call (.ref f) ⟨args, []⟩) Q) : T C m led (call (.ref f) args) Q := fun s P => wpAny_call (h s P)
theorem Tc.mono {c : Code} {Q Q' : Value → Loc → Led → Prop} (h : Tc C m led c Q) (k : ∀ a m' led', Q a m' led' → Q' a m' led') : Tc C m led c Q' := fun s P =>
  codeAny_mono (h s P) fun r s' hr => by
    match r, hr with
    | .ok (.ret v), ⟨m', l', P', hq⟩ => exact ⟨m', l', P', k _ _ _ hq⟩
    | .error e, he => exact he
theorem r_callDefXc {Q : Value → Loc → Led → Prop} {name qual : Str} {params : Arguments} {body : List Stmt} {scope : Scope} {dV kV doc pm cdv ct oc : Value} {an od : Option Addr} {osl : Array (Option Value)} {f : Addr} {args : List Value}
    (hroom : C.A.depth < recursionLimit)
    (ho : (hd.heap_1 C.W.w.params).lookup f = some ⟨oc, od, .func (fnOf name qual params body scope dV kV doc pm an cdv ct), osl⟩) (hcd : codeIn (hd.heap_1 C.W.w.params) cdv qual = true)
    (hco : scope.isCoroutine = false) (hgen : scope.isGenerator = false) (hk : scope.kind = .function)
    (h : T ⟨C.W, C.A.in1, C.E, C.β, C.L⟩ m led (bindArgs (fnOf name qual params body scope dV kV doc pm an cdv ct) ⟨args, []⟩) fun binds m1 l1 => (∀ y ∈ binds, scope.names.lookup y.1 = some .local) ∧
      ∀ β' L', Up C.β β' → (∀ m'' led'' s'', Pt C.W β' L' m'' led'' s'' → Pt C.W C.β C.L m1 led'' s'') →
        T ⟨C.W, C.A.deeper (envOfC qual scope L' f cdv), fun e s'' => wpAny (Mo C.W) (C.A.deeper (envOfC qual scope L' f cdv)) (leaving (envOfC qual scope L' f cdv) e) (fun _ s3 => C.E e s3) (fun e' s3 => C.E e' s3) s'', β', L'⟩
          (bindM binds fun _ => none) (cellLed (L' + 1) scope.names l1) (execs body (envOfC qual scope L' f cdv)) fun fl _ led' => ∃ l', List.Sublist l' led' ∧ Q (retv fl) m1 l') : Tc C m led (.call (.ref f) ⟨args, []⟩) Q := fun s P => by
  refine (codeAny_call_function (fd := fnOf name qual params body scope dV kV doc pm an cdv ct) (body := body) hroom (P.X _ _ ho) rfl hco hgen rfl (codeRec_of P.X hcd) ?_)
  refine h.run P fun binds s1 m1 l1 P1 ⟨hloc, h1⟩ => ?_
  simp only [newFunctionEnv, Option.isSome_none, Bool.false_eq_true, if_false]
  refine wpAny_bind (wpAny_alloc ?_)
  refine wpAny_bind (wpAny_layCells _ (fun name kind cells => by cases hkc : kind == NameKind.cell <;> simp [hkc]) _ _ _ _ ?_)
  have hnone : s1.heap.get? s1.heap.objs.size = none := by
    cases q : s1.heap.get? s1.heap.objs.size with
    | none => rfl
    | some o => exact absurd (Heap.lt_size q) (Nat.lt_irrefl _)
  have P2 := (P1.into (L' := s1.heap.objs.size) (m' := fun _ => none) (s' := { s1 with heap := s1.heap.push { cls := .type "frame", data := .dict #[] } }) hnone (Heap.Ns.new s1.heap (.type "frame")) (fun b o e => Heap.get?_push_of_some _ e) rfl rfl).cells scope.names
  have hsz : ({ s1 with heap := s1.heap.push { cls := .type "frame", data := .dict #[] } } : Shared).heap.objs.size = s1.heap.objs.size + 1 := Heap.size_push ..
  rw [hsz] at P2 ⊢
  have up : Up C.β (hideB l1 s1.heap) := P1.up
  refine wpAny_bind (bindAll (env := envOfC qual scope s1.heap.objs.size f cdv) _ (fun _ _ _ => rfl) hk binds (fun _ => none) _ _ P2 (fun x hx => hloc x hx) fun s' P' _ => ?_)
  refine wpAny_pure ⟨P'.nolimit, codeAny_func ?_⟩
  exact (h1 (hideB l1 s1.heap) s1.heap.objs.size up (fun m'' led'' s'' P'' => P1.back P'')).run P' fun fl s'' m'' led'' P'' ⟨l', hs, hq⟩ => ⟨m1, l', (P1.back P'').drop hs, hq⟩
theorem r_callDefSc {Q : Value → Loc → Led → Prop} {name qual : Str} {params : Arguments} {body : List Stmt} {scope : Scope} {dV kV doc pm cdv ct oc : Value} {an od : Option Addr} {osl : Array (Option Value)} {f : Addr} {args : List Value} {k : Nat}
    (R : Room C (k + 1))
    (ho : (hd.heap_1 C.W.w.params).lookup f = some ⟨oc, od, .func (fnOf name qual params body scope dV kV doc pm an cdv ct), osl⟩) (hcd : codeIn (hd.heap_1 C.W.w.params) cdv qual = true)
    (hco : scope.isCoroutine = false) (hgen : scope.isGenerator = false) (hk : scope.kind = .function)
    (h : ∀ A1, T ⟨C.W, A1, C.E, C.β, C.L⟩ m led (bindArgs (fnOf name qual params body scope dV kV doc pm an cdv ct) ⟨args, []⟩) fun binds m1 l1 => (∀ y ∈ binds, scope.names.lookup y.1 = some .local) ∧
      ∀ A' E' β' L', Room ⟨C.W, A', E', β', L'⟩ k → Up C.β β' →
      T ⟨C.W, A', E', β', L'⟩ (bindM binds fun _ => none) (cellLed (L' + 1) scope.names l1) (execs body (envOfC qual scope L' f cdv)) fun fl _ led' => ∃ l', List.Sublist l' led' ∧ Q (retv fl) m1 l') : Tc C m led (.call (.ref f) ⟨args, []⟩) Q := by
  refine r_callDefXc (by have := R.d; unfold recursionLimit; omega) ho hcd hco hgen hk ((h _).mono fun binds m1 l1 ⟨hl, h1⟩ => ⟨hl, fun β' L' up _ => ?_⟩)
  exact h1 _ _ β' L' ⟨by have := R.d; show C.A.depth + 1 + 2 * k < 1000; omega, by have := R.u; show C.A.units + 3 + 100 * k < 9900; omega, R.h⟩ up
theorem r_cwM2 {pos : Pos} {self : Value} {e : Expr} {rest : List Expr} {Q : Value → Loc → Led → Prop} (hf : fnIn (hd.heap_1 C.W.w.params) f = true)
    (h : T C m led (spliced (backTo pos (starEach (e :: rest) env))) fun vs m1 l1 => Has C l1 q (methodObj (.ref f) self) ∧ T C m1 l1 (call (.ref q) vs) Q)
    (h1 : starEach (e :: rest) env = (false, eval e env) :: starEach rest env := by rfl) (h2 : (List.any (backTo pos (starEach rest env)) fun x => x.1) = true := by rfl) :
    T C m led (callWith pos (.ref q) [] (backTo pos (starEach (e :: rest) env)) []) Q := fun s P => by
  rw [h1]
  rw [h1] at h
  refine ks_call (P := MethP (hd.heap_1 C.W.w.params) q f self) (by show (false || (backTo pos (starEach rest env)).any (·.1)) = true; rw [h2]; rfl) (keeps_M hf) (evalArgs_plain (h.run P fun v s1 m1 l1 P1 h1 => ⟨⟨h1.1.get P1, P1.X⟩, h1.2 s1 P1⟩))
theorem r_cwM {pos p : Pos} {self : Value} {e : Expr} {Q : Value → Loc → Led → Prop} (hf : fnIn (hd.heap_1 C.W.w.params) f = true)
    (h : T C m led (eval e env) fun v m1 l1 => ∃ vs, Apart C l1 v vs ∧ Has C l1 q (methodObj (.ref f) self) ∧ T C m1 l1 (call (.ref q) vs) Q) : T C m led (callWith pos (.ref q) [] (backTo pos (starEach [.Starred e p] env)) []) Q := fun s P => by
  refine ks_call (P := MethP (hd.heap_1 C.W.w.params) q f self) rfl (keeps_M hf) (ks_lone (h.run P fun v s1 m1 l1 P1 ⟨vs, ha, hb, h1⟩ => ha.star P1 fun s2 P2 => ⟨⟨hb.get P2, P2.X⟩, h1 s2 P2⟩))
end
end
section
theorem meets_bool_list (l : Addr) (items : Array Value) (n : Nat) (hf : (items.size : Int) < 2 ^ 63) : Meets (Builtin.«bool.__new__» ⟨[.type "bool", .ref l], []⟩) (fun _ R s => s.heap.get? l = some { cls := .type "list", dict := none, data := .seq items n, slots := #[] } ∧ R (.ok (.ret (.bool (!items.isEmpty)))) { s with toks := s.toks + 1 + 1 }) :=
  .of_wp fun prog w A R s hs => by
    obtain ⟨hp, g, d, tk, os⟩ := s
    obtain ⟨hl, hs⟩ := hs
    have f1 := PySem.F.conv_sub_bool
    have hL : Heap.IsList (Shared.heap ⟨hp, g, d, tk, os⟩) l items := ⟨_, hl, rfl, n, rfl⟩
    repeat (any_goals (first | assumption | with_reducible refine wpAny_truthy_list hL hf ?_ | wp_step))
    all_goals first | exact ⟨_, rfl, hs⟩ | skip
section
variable {C : Cx} {m : Loc} {led : Led} {env : Env} {l : Addr} {vs : List Value} {n : Nat} {Q : Value → Loc → Led → Prop}
theorem r_tupleL (hl : Has C led l (listO vs n)) (hz : vs.length ≤ sizeLine) (h : ∀ a, Q (.ref a) m ((a, tupO vs) :: led)) : T C m led (call (.type "tuple") [.ref l]) Q := fun s P =>
  call_tuple_list (hl.isList P) (fun h' hk => ⟨m, _, (P.ext hk s.toks).alloc _, h _⟩) (by simpa using hz)
theorem r_gmClear {pl : Sem Bool} {Q : Value × List Value → Loc → Led → Prop} (hl : Has C led l (listO vs n)) (h : Q (.builtin "list.clear", [.ref l]) m led) : T C m led (getMethod (.ref l) "clear" pl) Q :=
  r_gmList hl PySem.F.slot_list_clear PySem.F.type_list_clear h
theorem r_clear {pre post : Led} (e : led = pre ++ (l, listO vs n) :: post) (hz : vs.length ≤ sizeLine) (h : ∀ n', Q .none m (pre ++ (l, listO [] n') :: post)) : T C m led (call (.builtin "list.clear") [.ref l]) Q := fun s P => by
  subst e
  have hg := P.get (a := l) (o := listO vs n) (by simp)
  refine call_meets PySem.F.slot_list_clear (T := "list") ⟨_, hg, rfl⟩ PySem.F.entry_list_clear (PySem.F.args_list_clear_1 _) (AutoSeq1.list_clear_list_0 l vs.toArray n (by simpa using hz)) ⟨hg, ?_⟩
  obtain ⟨n', e'⟩ : ∃ n', Obj.mapSeq (fun _ => #[]) (listO vs n) = listO [] n' := ⟨_, rfl⟩
  exact ⟨m, _, (P.update _ e' rfl).tk _, h n'⟩
theorem r_truthyL {Q : Bool → Loc → Led → Prop} (hl : Has C led l (listO vs n)) (hz : vs.length < 2 ^ 62) (h : Q (!vs.isEmpty) m led) : T C m led (truthy (.ref l)) Q := fun s P =>
  wpAny_truthy_list (hl.isList P) (by simp; omega) ⟨m, led, P.tk _, by simpa using h⟩
theorem r_boolL (hl : Has C led l (listO vs n)) (hz : vs.length < 2 ^ 62) (h : Q (.bool (!vs.isEmpty)) m led) : T C m led (call (.type "bool") [.ref l]) Q := fun s P =>
  call_bool_1 (meets_bool_list l vs.toArray n (by simp; omega)) ⟨hl.get P, rfl, ⟨m, led, P.tk _, by simpa using h⟩⟩
end
end
section
section
variable {C : Cx} {m : Loc} {led : Led} {env : Env} {outer : List Env}
theorem r_callDefFX {Q : Value → Loc → Led → Prop} {name qual : Str} {params : Arguments} {body : List Stmt} {scope : Scope} {dV kV doc pm cdv ct oc : Value} {an od : Option Addr} {osl : Array (Option Value)} {f : Addr} {args : List Value} {binds : List (Str × Value)} {k : Nat}
    (F : Frm C env outer) (R : Room C (k + 1))
    (ho : (hd.heap_1 C.W.w.params).lookup f = some ⟨oc, od, .func (fnOf name qual params body scope dV kV doc pm an cdv ct), osl⟩) (hcd : codeIn (hd.heap_1 C.W.w.params) cdv qual = true)
    (hbind : bindArgs (fnOf name qual params body scope dV kV doc pm an cdv ct) ⟨args, []⟩ = pure binds) (hloc : (binds.all fun x => decide (scope.names.lookup x.1 = some .local)) = true)
    (hco : scope.isCoroutine = false) (hgen : scope.isGenerator = false) (hk : scope.kind = .function)
    (h : ∀ β' L', Up C.β β' → Room ⟨C.W, C.A.deeper (envOfC qual scope L' f cdv), C.E, β', L'⟩ k → (∀ m'' led'' s'', Pt C.W β' L' m'' led'' s'' → Pt C.W C.β C.L m led'' s'') → (∀ E', Frm ⟨C.W, C.A.deeper (envOfC qual scope L' f cdv), E', β', L'⟩ (envOfC qual scope L' f cdv) (env :: outer)) →
        T ⟨C.W, C.A.deeper (envOfC qual scope L' f cdv), fun e s'' => wpAny (Mo C.W) (C.A.deeper (envOfC qual scope L' f cdv)) (leaving (envOfC qual scope L' f cdv) e) (fun _ s3 => C.E e s3) (fun e' s3 => C.E e' s3) s'', β', L'⟩
          (bindM binds fun _ => none) (cellLed (L' + 1) scope.names led) (execs body (envOfC qual scope L' f cdv)) fun fl _ led' => ∃ l', List.Sublist l' led' ∧ Q (retv fl) m l') : T C m led (call (.ref f) args) Q := fun s P => by
  refine wpAny_call (codeAny_call_function (fd := fnOf name qual params body scope dV kV doc pm an cdv ct) (body := body) (by have := R.d; unfold recursionLimit; omega) (P.X _ _ ho) rfl hco hgen rfl (codeRec_of P.X hcd) ?_)
  rw [hbind]
  refine wpAny_pure ?_
  simp only [newFunctionEnv, Option.isSome_none, Bool.false_eq_true, if_false]
  refine wpAny_bind (wpAny_alloc ?_)
  refine wpAny_bind (wpAny_layCells _ (fun name kind cells => by cases hkc : kind == NameKind.cell <;> simp [hkc]) _ _ _ _ ?_)
  have hnone : s.heap.get? s.heap.objs.size = none := by
    cases q : s.heap.get? s.heap.objs.size with
    | none => rfl
    | some o => exact absurd (Heap.lt_size q) (Nat.lt_irrefl _)
  have P2 := (P.into (L' := s.heap.objs.size) (m' := fun _ => none) (s' := { s with heap := s.heap.push { cls := .type "frame", data := .dict #[] } }) hnone (Heap.Ns.new s.heap (.type "frame")) (fun b o e => Heap.get?_push_of_some _ e) rfl rfl).cells scope.names
  have hsz : ({ s with heap := s.heap.push { cls := .type "frame", data := .dict #[] } } : Shared).heap.objs.size = s.heap.objs.size + 1 := Heap.size_push ..
  rw [hsz] at P2 ⊢
  refine wpAny_bind (bindAll (env := envOfC qual scope s.heap.objs.size f cdv) _ (fun _ _ _ => rfl) hk binds (fun _ => none) _ _ P2 (fun x hx => locs hloc x hx) fun s' P' _ => ?_)
  refine wpAny_pure ⟨P'.nolimit, codeAny_func ?_⟩
  refine (h (hideB led s.heap) s.heap.objs.size P.up ⟨?_, ?_, R.h⟩ (fun m'' led'' s'' P'' => P.back P'') fun E' => ⟨Around.frames_deeper F.fr, rfl, by rw [show (envOfC qual scope s.heap.objs.size f cdv).scope.kind = .function from hk]; decide, ?_, Nat.le_of_lt (Nat.lt_of_le_of_lt F.sz P.ns.lt)⟩).run P' fun fl s'' m'' led'' P'' ⟨l', hs, hq⟩ => ⟨m, l', (P.back P'').drop hs, hq⟩
  · have := R.d; show C.A.depth + 1 + 2 * k < 1000; omega
  · have := R.u; show C.A.units + 3 + 100 * k < 9900; omega
  · obtain ⟨oL, es, ep, hL, hdL, _⟩ := P.ns
    refine ⟨F.kd, ⟨C.L, oL, F.loc, ?_, hideB_of hL P.notLedL, fun vs q => by rw [hdL] at q; cases q⟩, F.out.up P.up⟩
    cases q : C.W.h.get? C.L with
    | none => rfl
    | some o => have := P.base _ _ q; rw [P.off] at this; cases this
theorem r_cwT0 {pos : Pos} {ty : String} {Q : Value → Loc → Led → Prop} (h : T C m led (call (.type ty) []) Q) : T C m led (callWith pos (.type ty) [] (backTo pos (starEach [] env)) []) Q := fun s P => PyProof.Rows.callWith_type0 (h s P)
theorem r_cwMw {pos : Pos} {mw it : Addr} {Q : Value → Loc → Led → Prop} (hm : Has C led mw (mwO it)) (h : T C m led (call (.ref mw) []) Q) : T C m led (callWith pos (.ref mw) [] (backTo pos (starEach [] env)) []) Q := fun s P =>
  callWith_of (P := fun h => h.get? mw = some (mwO it)) rfl (fun h' hg => ⟨.machine, .inr (.inl rfl), (Looks.ld (part := none) hg).andThen .now⟩) (evalArgs_nil3 ⟨hm.get P, h s P⟩)
theorem r_CallE {func : Expr} {pos : Pos} {args : List Expr} {Q : Value → Loc → Led → Prop} (h : T C m led (eval func env) fun f m1 l1 => T C m1 l1 (callWith pos f [] (backTo pos (starEach args env)) []) Q)
    (he : eval (.Call func args [] pos) env = (do callWith pos (← eval func env) [] (backTo pos (starEach args env)) (backToKw pos (keywordEach [] env))) := by rfl) : T C m led (eval (.Call func args [] pos) env) Q := r_Call h he
theorem Frm.ofE {E' : Value → Shared → Prop} (F : Frm C env outer) : Frm (C.e E') env outer := ⟨F.fr, F.loc, F.kd, F.out, F.sz⟩
end
end
section
abbrev bmV : List Value := [.type "ValueError", .type "Exception", .type "BaseException", .type "object"]
section
variable {C : Cx} {m : Loc} {led : Led} {env : Env} {outer : List Env} {s : Shared} {e : Addr}
theorem Pt.notedG (F : Frm C env outer) (P : Pt C.W C.β C.L m led s) {h' : Heap} (ex : ∀ b o, b ≠ C.L → b ∉ outer.filterMap (·.frame) → (C.β b ≠ none ∨ b ∈ led.map (·.1)) → s.heap.get? b = some o → h'.get? b = some o) (hU : s.heap.UpToSlots h') :
    Pt C.W C.β C.L m led { s with heap := h' } := by
  refine ⟨P.base, ⟨fun a o q => ?_, fun a o q => ?_⟩, P.off, hU.ns P.ns, fun p hp => ⟨?_, (P.own p hp).2⟩, P.nd, P.gens, P.os⟩
  · have hb := P.base a o q
    refine ex a o (fun z => ?_) (fun z => ?_) (.inl (by rw [hb]; simp)) (P.all a o q)
    · rw [z, P.off] at hb; cases hb
    · rw [(F.out.mem z).1] at q; cases q
  · obtain ⟨sl, hg⟩ := P.keep.2 a o q
    by_cases hz : a ∈ outer.filterMap (·.frame)
    · obtain ⟨_, o2, h2, h3⟩ := F.out.mem hz
      rw [q] at h2
      cases h2
      obtain ⟨sl2, h4⟩ := hU a _ hg h3
      exact ⟨sl2, h4⟩
    · refine ⟨sl, ex a _ (fun z => ?_) hz (.inl (by rw [q]; simp)) hg⟩
      rw [z, P.off] at q; cases q
  · refine ex p.1 p.2 (P.own p hp).2.1 (fun z => ?_) (.inr (List.mem_map_of_mem hp)) (P.own p hp).1
    obtain ⟨_, o2, h2, _⟩ := F.out.mem z
    rw [(P.own p hp).2.2] at h2; cases h2
def Flown (C : Cx) (env : Env) (outer : List Env) (cls : Value) (K : Loc → Led → Prop) (v : Value) (s : Shared) : Prop :=
  ∃ e m1 l1 base a0, v = .ref e ∧ Pt C.W C.β C.L m1 l1 s ∧ Heap.FlyingW base (env :: outer) e cls a0 s.heap ∧ (∀ b o, b ≠ C.L → b ∉ outer.filterMap (·.frame) → (C.β b ≠ none ∨ b ∈ l1.map (·.1)) → s.heap.get? b = some o → base.get? b = some o) ∧ K m1 l1
theorem r_Joined1 {v : Expr} {pos : Pos} {Q : Value → Loc → Led → Prop} (h : T C m led (eval v env) Q) : T C m led (eval (.JoinedStr [v] pos) env) Q := fun s P => PyProof.Rows.JoinedStr_one (h s P)
end
section
variable {C : Cx} {m : Loc} {led : Led} {env : Env} {outer : List Env} {s : Shared}
theorem Frm.frW (F : Frm C env outer) (P : Pt C.W C.β C.L m led s) : Fr C.W.h C.L s.heap m := ⟨P.ns, P.all, F.sz⟩
theorem r_RaiseOwn {x name : Str} {scope : Scope} {a cl : Addr} {cd : Value} {np cpos pos : Pos} {e₀ : Expr} {rest : List Expr} {Q : Flow → Loc → Led → Prop} (F : Frm C env outer) (hh : C.A.handled = none)
    (ex : nsIn (hd.heap_1 C.W.w.params) mainGlobals x = some (some (.ref cl))) (q : excIn (hd.heap_1 C.W.w.params) cl bmV "ValueError.__new__" = true)
    (h : T C m led (spliced (backTo cpos (starEach (e₀ :: rest) (envOf name scope C.L a cd)))) fun vs m1 l1 => vs.length ≤ sizeLine ∧ ∀ s1 h' e, Pt C.W C.β C.L m1 l1 s1 → Heap.MadeExcOf s1.heap h' e (.ref cl) vs → C.E (.ref e) { s1 with heap := h' })
    (he : starEach (e₀ :: rest) (envOf name scope C.L a cd) = (false, eval e₀ (envOf name scope C.L a cd)) :: starEach rest (envOf name scope C.L a cd) := by rfl)
    (hplain : (backTo cpos (starEach rest (envOf name scope C.L a cd))).any (·.1) = false := by rfl)
    (hk : scope.kind = .function := by rfl) (hx : (envOf name scope C.L a cd).kindOf x = some .globalImplicit := by rfl) (hd : (x == ("__debug__" : Str)) = false := by decide) :
    T C m led (exec (.Raise (some (.Call (.Name x np) (e₀ :: rest) [] cpos)) none pos) (envOf name scope C.L a cd)) Q := fun s P =>
  Raise_own (F.frW P) C.W.T.g (own_of_in C.W.X (topRead_of C.W.T) ex q) PySem.F.excBase_ValueError hh (h.run P fun vs s1 m1 l1 P1 ⟨h1, h2⟩ => ⟨h1, P1.all, fun h' e hx => h2 s1 h' e P1 hx⟩) he hplain hk hx hd
theorem leave_made {A2 : Around} {E2 E3 : Value → Shared → Prop} {β2 : Addr → Option Obj} {L2 e : Addr} {env2 : Env} {m1 : Loc} {l1 : Led} {s1 : Shared} {h' : Heap} {cls : Value} {vs : List Value} {K : Loc → Led → Prop}
    (F2 : Frm ⟨C.W, A2, E2, β2, L2⟩ env2 (env :: outer)) (F : Frm C env outer) (up : Up C.β β2) (back : ∀ m'' led'' s'', Pt C.W β2 L2 m'' led'' s'' → Pt C.W C.β C.L m led'' s'') (P1 : Pt C.W β2 L2 m1 l1 s1) (hx : Heap.MadeExcOf s1.heap h' e cls vs) (hK : K m l1) :
    wpAny (Mo C.W) A2 (leaving env2 (.ref e)) (fun _ s3 => Flown C env outer cls K (.ref e) s3) E3 { s1 with heap := h' } := by
  have hst : (hideAll s1.heap ((env2 :: env :: outer).filterMap (·.frame))).StaysIn s1.heap := fun b o q => of_hideAll _ q
  have hfs : (env2 :: env :: outer).filterMap (·.frame) = L2 :: C.L :: outer.filterMap (·.frame) := by rw [List.filterMap_cons, F2.loc, List.filterMap_cons, F.loc]
  refine wpAny_leaves_madeW F2.fr F2.loc hst (F2.frames P1 fun f hf => hideAll_none _ hf) hx fun h3 t fl _ _ u3 => ?_
  have U3 : s1.heap.UpToSlots h3 := (Heap.UpToSlots.of_keeps hx.keeps).trans u3
  have P3 : Pt C.W β2 L2 m1 l1 { s1 with heap := h3 } := Pt.notedG (C := ⟨C.W, A2, E2, β2, L2⟩) F2 P1 (fun b o h1 h2 _ q => fl.1 b o (hideAll_get _ q (by
    rw [hfs]
    rw [List.filterMap_cons, F.loc] at h2
    exact fun hm => (List.mem_cons.mp hm).elim h1 h2))) U3
  refine ⟨e, m, l1, _, _, rfl, back _ _ _ P3, fl, fun b o h1 h2 h3' q => ?_, hK⟩
  have hb2 : b ≠ L2 ∧ ∃ o1, s1.heap.get? b = some o1 := by
    rcases h3' with h3' | h3'
    · cases hq : C.β b with
      | none => exact absurd hq h3'
      | some y =>
        obtain ⟨sl, hy⟩ := up b y hq
        obtain ⟨sl2, hy2⟩ := P1.keep.2 b _ hy
        exact ⟨fun z => (by rw [z, P1.off] at hy; cases hy), _, hy2⟩
    · obtain ⟨p, hp, rfl⟩ := List.mem_map.mp h3'
      exact ⟨(P1.own p hp).2.1, _, (P1.own p hp).1⟩
  obtain ⟨hbL, o1, ho1⟩ := hb2
  have hbase := hideAll_get ((env2 :: env :: outer).filterMap (·.frame)) ho1 (by rw [hfs]; simp only [List.mem_cons, not_or]; exact ⟨hbL, h1, h2⟩)
  have := fl.1 b o1 hbase
  have e2 : o = o1 := by
    have q' : h3.get? b = some o := q
    rw [this] at q'
    exact (Option.some.inj q').symm
  rw [e2]; exact hbase
theorem r_TryOwn {x : Str} {cl : Addr} {body suite : List Stmt} {b₀ : Stmt} {np hpos pos : Pos} {Q : Flow → Loc → Led → Prop} (F : Frm C env outer) (K : Loc → Led → Prop)
    (hb : T (C.e (Flown C env outer (.ref cl) K)) m led (execs body env) fun f m1 l1 => match f with | .next => Q .next m1 l1 | f => Q f m1 l1)
    (hk : ∀ e E2 m1 l1, K m1 l1 → T ⟨C.W, C.A.mark (some (.ref e)), E2, C.β, C.L⟩ m1 l1 (execs (b₀ :: suite) env) Q)
    (h1 : env.scope.kind = .function) (h2 : env.kindOf x = some .globalImplicit) (h3 : env.globals = mainGlobals)
    (ex : nsIn (hd.heap_1 C.W.w.params) mainGlobals x = some (some (.ref cl))) (q : excIn (hd.heap_1 C.W.w.params) cl bmV "ValueError.__new__" = true) (hd : (x == ("__debug__" : Str)) = false := by decide) :
    T C m led (exec (.Try body [.ExceptHandler (some (.Name x np)) none (b₀ :: suite) hpos] [] [] pos) env) Q := fun s P => by
  refine wpAny_Try_except (wpAny_mono (hb s P) (fun f s1 ⟨m1, l1, P1, hq⟩ => ?_) fun v s1 hs => ?_)
  · cases f with
    | next => exact wpAny_pure ⟨m1, l1, P1, hq⟩
    | _ => exact ⟨m1, l1, P1, hq⟩
  · obtain ⟨e, m1, l1, base, a0, rfl, P1, fl, hbs, hK⟩ := hs
    refine wpAny_looks_onW F.fr F.loc fl fun h₄ hheld₄ u4 => ?_
    refine wpAny_landsW (s := { s1 with heap := h₄ }) hheld₄ fun h₅ fl5 u5 => ?_
    have U5 : s1.heap.UpToSlots h₅ := u4.trans u5
    have P5 := Pt.notedG F P1 (fun b o n1 n2 n3 g => fl5.1 b o (hbs b o n1 n2 n3 g)) U5
    obtain ⟨ob, hob, hobc⟩ := fl5.there
    refine wpAny_handleBy_cons (codeAny_handlers_test ?_) (by intro q; cases q)
    refine Calls.Name_function_global h1 h2 (Calls.loadGlobal_global (env := env) (h3 ▸ P5.T.g) (mg_of P5.X P5.T.g ex) ?_) hd
    obtain ⟨bm, N, nm, qn, bs, hdct, sn, sub, ab, col, dd, k0, k1, k2, k3, k5, mN, hC, hN, hni, TL⟩ := ((own_of_in C.W.X (topRead_of C.W.T) ex q).keeps P5.all).obj
    refine wpAny_excMatches_sub_self hC hob hobc (TL.hasType (by decide)) (codeAny_handlers_suite ?_)
    refine lands_againW fl5 fun h₆ fl6 u6 => ?_
    have P6 := Pt.notedG F P1 (fun b o n1 n2 n3 g => fl6.1 b o (hbs b o n1 n2 n3 g)) (U5.trans u6)
    exact hk e _ m1 l1 hK _ P6
end
end
section
abbrev kwLen (b : Bool) : List (Str × Value) := if b then [(Str.ofString "key", .builtin "len"), (Str.ofString "reverse", .bool true)] else [(Str.ofString "key", .builtin "len")]
def keyed (a : Addr) (b : Bool) : Sem PySem.Fin := do
    let items ← Builtin.List.listItems (.ref a)
    Builtin.List.listUpdate (.ref a) fun _ => #[]
    let before ← seqEpoch a
    let held ← newTuple items.toList
    let keyStore ← newList []
    holding [held, keyStore] do
      rule "list.sort.key"
      forIn items PUnit.unit fun x _ => do
        match ← (call (.builtin "len") [x]).attempt with
        | .ok k => do Builtin.List.listUpdate keyStore (·.push k); pure (ForInStep.yield ⟨⟩)
        | .error e => do
          rule "list.sort.key-raised"
          let made ← Builtin.List.listItems keyStore
          Builtin.List.listUpdate keyStore fun _ => #[]
          letGo made.toList.reverse [e]
          Builtin.List.listUpdate (.ref a) fun _ => items
          throw e
      let keys ← Builtin.List.listItems keyStore
      if b then rule "list.sort.reverse"
      let kind ← if items.size < 2 then pure general' else keyKind' keys
      let ((), s) ← (if items.size < 2 then pure () else sortRuns').run (SortSt.mk' kind (if b then (keys.zip items).reverse else keys.zip items) #[] 7 none)
      let sorted := (arrOf s).map (·.2)
      Builtin.List.listUpdate keyStore fun _ => #[]
      letGo ((arrOf s).map (·.1)).toList (failedOf s).toList
      let touched := (← seqEpoch a) != before
      Builtin.List.listUpdate (.ref a) fun _ => if b then sorted.reverse else sorted
      if let some e := failedOf s then rule "list.sort.comparison-raised"; throw e
      if touched then rule "list.sort.modified"; raiseError "ValueError" "list modified during sort"
      ret .none
theorem list_sort_key (a : Addr) (b : Bool) : Builtin.«list.sort» ⟨[.ref a], kwLen b⟩ = keyed a b := by
  cases b
  · first | rfl | (fail "not by rfl")
  · first | rfl | (fail "not by rfl")
section
variable {prog : Program} {w : World} {A : Around} {E : Value → Shared → Prop}
theorem keys_loop {ks : Addr} (f : Value → PUnit → Sem (ForInStep PUnit)) (hf : ∀ (y : Str) (t : Tok) (u : PUnit) (s : Shared) (Q : ForInStep PUnit → Shared → Prop) (acc : Array Value) (n : Nat), y.length < 2 ^ 62 → acc.size ≤ 1000 → s.heap.get? ks = some (seqObj "list" acc n) →
      (∀ h' n' tt tt2, h'.get? ks = some (seqObj "list" (acc.push (.int y.length tt)) n') → Heap.SameBut ks s.heap h' → Q (.yield ⟨⟩) { s with heap := h', toks := tt2 }) → wpAny (model prog w) A (f (.str y t) u) Q E s) :
    ∀ (xs : List Value) (ss : List Str) (s : Shared) (acc : List Value) (n : Nat) (Q : PUnit → Shared → Prop), StrsAre xs ss → (∀ y ∈ ss, y.length < 2 ^ 62) → acc.length + xs.length ≤ 1000 → s.heap.get? ks = some (seqObj "list" acc.toArray n) →
      (∀ h' kv n' tt, IntsAre kv (ss.map fun y => (y.length : Int)) → h'.get? ks = some (seqObj "list" (acc ++ kv).toArray n') → Heap.SameBut ks s.heap h' → Q ⟨⟩ { s with heap := h', toks := tt }) → wpAny (model prog w) A (forIn xs PUnit.unit f) Q E s
  | [], ss, s, acc, n, Q, hS, hl, hz, ho, h => by
    cases hS
    rw [List.forIn_nil]
    exact wpAny_pure (h s.heap [] n s.toks .nil (by simpa using ho) (Heap.SameBut.refl _ _))
  | x :: r, ss, s, acc, n, Q, hS, hl, hz, ho, h => by
    cases hS with
    | cons y t hS' =>
      rename_i ss'
      rw [List.forIn_cons]
      refine wpAny_bind (hf y t ⟨⟩ s _ acc.toArray n (hl y (by simp)) (by simp at hz ⊢; omega) ho fun h1 n1 tt tt2 ho1 hsb1 => ?_)
      refine keys_loop f hf r ss' _ (acc ++ [.int y.length tt]) n1 Q hS' (fun z hz => hl z (by simp [hz])) (by simp at hz ⊢; omega) (by simpa using ho1) fun h2 kv n2 tt3 hk ho2 hsb2 => ?_
      exact h h2 (.int y.length tt :: kv) n2 tt3 (.cons _ _ hk) (by simpa using ho2) (hsb1.trans hsb2)
end
def strV : Value → Str
  | .str x _ => x
  | _ => Str.empty
theorem strsAre_map {vs : List Value} {ss : List Str} (h : StrsAre vs ss) : vs.map strV = ss := by
  induction h with
  | nil => rfl
  | cons x t _ ih => simp [strV, ih]
theorem strsAre_all (l : List Value) (h : ∀ v ∈ l, ∃ x t, v = Value.str x t) : StrsAre l (l.map strV) := by
  induction l with
  | nil => exact .nil
  | cons v r ih =>
    obtain ⟨x, t, rfl⟩ := h v (by simp)
    exact .cons x t (ih fun w hw => h w (by simp [hw]))
theorem intsAre_length {vs : List Value} {ns : List Int} (h : IntsAre vs ns) : vs.length = ns.length := by
  induction h with
  | nil => rfl
  | cons x t _ ih => simp [ih]
theorem zip_pairs {kv vs : List Value} {ss : List Str} (hk : IntsAre kv (ss.map fun y => (y.length : Int))) (hS : StrsAre vs ss) : ∀ p ∈ kv.zip vs, ∃ y t tt, p = (Value.int (y.length : Int) tt, Value.str y t) := by
  induction hS generalizing kv with
  | nil => cases hk; intro p hp; simp at hp
  | cons x t hS ih =>
    cases hk with
    | cons n tt hk =>
      intro p hp
      simp only [List.zip_cons_cons, List.mem_cons] at hp
      rcases hp with rfl | hp
      · exact ⟨x, t, tt, rfl⟩
      · exact ih hk p hp
theorem keyed_out {kv vs : List Value} {ss : List Str} (hk : IntsAre kv (ss.map fun y => (y.length : Int))) (hS : StrsAre vs ss) {xs : Array Keyed} (hp : xs.toList.Perm (kv.zip vs)) (hs : SortedTo xs xs.size) :
    ∃ ss', StrsAre (xs.map (·.2)).toList ss' ∧ ss'.Perm ss ∧ ss'.Pairwise fun a b => a.length ≤ b.length := by
  have hpr := zip_pairs hk hS
  have hlen : kv.length = vs.length := by
    have h1 := intsAre_length hk
    have h2 := strsAre_len hS
    simp at h1
    omega
  have hmem : ∀ p ∈ xs.toList, ∃ y t tt, p = (Value.int (y.length : Int) tt, Value.str y t) := fun p h => hpr p (hp.mem_iff.mp h)
  refine ⟨(xs.toList.map (·.2)).map strV, ?_, ?_, ?_⟩
  · rw [Array.toList_map]
    refine strsAre_all _ fun v hv => ?_
    obtain ⟨p, hp', rfl⟩ := List.mem_map.mp hv
    obtain ⟨y, t, tt, rfl⟩ := hmem p hp'
    exact ⟨y, t, rfl⟩
  · have h1 := (hp.map (·.2)).map strV
    rw [List.map_snd_zip (by omega), strsAre_map hS] at h1
    exact h1
  · rw [List.map_map, List.pairwise_map]
    rw [List.pairwise_iff_getElem]
    intro i j hi hj hij
    have hi' : i < xs.size := by simpa using hi
    have hj' : j < xs.size := by simpa using hj
    have h1 := hs i j (Nat.le_of_lt hij) hj'
    obtain ⟨y1, t1, u1, e1⟩ := hmem xs.toList[i] (List.getElem_mem hi)
    obtain ⟨y2, t2, u2, e2⟩ := hmem xs.toList[j] (List.getElem_mem hj)
    have k1 : K xs i = y1.length := by unfold K; rw [Array.getElem?_eq_getElem hi', ← Array.getElem_toList hi', e1]; rfl
    have k2 : K xs j = y2.length := by unfold K; rw [Array.getElem?_eq_getElem hj', ← Array.getElem_toList hj', e2]; rfl
    rw [k1, k2] at h1
    rw [e1, e2]
    simp only [Function.comp, strV]
    omega
end
section
def OrdL (b : Bool) (ss : List Str) : Prop := ss.Pairwise fun x y => if b then y.length ≤ x.length else x.length ≤ y.length
section
variable {prog : Program} {w : World} {A : Around} {E : Value → Shared → Prop} {s : Shared}
theorem strsAre_rev {vs : List Value} {ss : List Str} (h : StrsAre vs ss) : StrsAre vs.reverse ss.reverse := by
  have h1 := strsAre_all vs.reverse (fun v hv => h.all v (List.mem_reverse.mp hv))
  rwa [List.map_reverse, strsAre_map h] at h1
theorem keyed_out2 {kv vs : List Value} {ss : List Str} (hk : IntsAre kv (ss.map fun y => (y.length : Int))) (hS : StrsAre vs ss) {xs : Array Keyed} (hp : xs.Perm (kv.toArray.zip vs.toArray)) (hs : SortedTo xs xs.size) (b : Bool) :
    ∃ ss', StrsAre (if b then (xs.map (·.2)).reverse else xs.map (·.2)).toList ss' ∧ ss'.Perm ss ∧ OrdL b ss' := by
  obtain ⟨ss', h1, h2, h3⟩ := keyed_out hk hS (by simpa using Array.perm_iff_toList_perm.mp hp) hs
  cases b with
  | false => exact ⟨ss', h1, h2, by simpa [OrdL] using h3⟩
  | true =>
    refine ⟨ss'.reverse, ?_, (List.reverse_perm _).trans h2, ?_⟩
    · simp only [if_true, Array.toList_reverse]; exact strsAre_rev h1
    · simp only [OrdL, if_true]
      rw [List.pairwise_reverse]; exact h3
theorem keyed_tree {a : Addr} {vs : List Value} {ss : List Str} {n : Nat} {b : Bool} {P : PySem.Fin → Shared → Prop} (ho : s.heap.get? a = some (seqObj "list" vs.toArray n))
    (hS : StrsAre vs ss) (hl : ∀ y ∈ ss, y.length < 2 ^ 62) (h64 : vs.length < 64)
    (h : ∀ h' t' (out : List Value) (ss' : List Str) e, h'.get? a = some (seqObj "list" out.toArray e) → (∀ c o, c ≠ a → s.heap.get? c = some o → h'.get? c = some o) → StrsAre out ss' → ss'.Perm ss → OrdL b ss' → P (.done (.ret .none)) { s with heap := h', toks := t' }) :
    wpAny (model prog w) A (keyed a b) P E s := by
  unfold keyed
  have ha : a < s.heap.objs.size := Heap.lt_size ho
  have hlen : vs.length = ss.length := strsAre_len hS
  refine wpAny_bind (listItems_at ho rfl ?_)
  refine wpAny_bind (listUpdate_at ho rfl ?_)
  obtain ⟨e1, ho1⟩ : ∃ e1, (s.heap.update a (Obj.mapSeq fun _ => #[])).get? a = some (seqObj "list" #[] e1) := ⟨_, get?_update_seq ho (fun _ => #[])⟩
  have hoth : ∀ c o, c ≠ a → s.heap.get? c = some o → (s.heap.update a (Obj.mapSeq fun _ => #[])).get? c = some o := fun c o hc hg => by rw [Heap.get?_update_ne _ _ _ _ hc]; exact hg
  generalize hh1 : s.heap.update a (Obj.mapSeq fun _ => #[]) = h1 at ho1 hoth ⊢
  have hz1 : h1.objs.size = s.heap.objs.size := by rw [← hh1, Heap.size_update]
  refine wpAny_bind (seqEpoch_at ho1 rfl ?_)
  refine wpAny_bind (wpAny_newTuple ?_)
  refine wpAny_bind (wpAny_newList ?_)
  refine wpAny_holding ?_
  show wpAny (model prog w) A _ P E { s with heap := (h1.push (seqObj "tuple" vs.toArray 0)).push (seqObj "list" #[] 0) }
  have ho2 : ((h1.push (seqObj "tuple" vs.toArray 0)).push (seqObj "list" #[] 0)).get? a = some (seqObj "list" #[] e1) := Heap.get?_push_of_some _ (Heap.get?_push_of_some _ ho1)
  have hoth2 : ∀ c o, c ≠ a → s.heap.get? c = some o → ((h1.push (seqObj "tuple" vs.toArray 0)).push (seqObj "list" #[] 0)).get? c = some o := fun c o hc hg => Heap.get?_push_of_some _ (Heap.get?_push_of_some _ (hoth c o hc hg))
  have hks : ((h1.push (seqObj "tuple" vs.toArray 0)).push (seqObj "list" #[] 0)).get? (h1.push (seqObj "tuple" vs.toArray 0)).objs.size = some (seqObj "list" #[] 0) := Heap.get?_push_size _ rfl
  have hne : (h1.push (seqObj "tuple" vs.toArray 0)).objs.size ≠ a := by rw [size_push', hz1]; exact (Nat.ne_of_lt (Nat.lt_succ_of_lt ha)).symm
  have hnew : ∀ c o, s.heap.get? c = some o → c ≠ (h1.push (seqObj "tuple" vs.toArray 0)).objs.size := fun c o hg => by rw [size_push', hz1]; exact Nat.ne_of_lt (Nat.lt_succ_of_lt (Heap.lt_size hg))
  generalize hks' : (h1.push (seqObj "tuple" vs.toArray 0)).objs.size = ks at hks hne hnew
  dsimp only
  generalize (h1.push (seqObj "tuple" vs.toArray 0)).push (seqObj "list" #[] 0) = h2 at ho2 hoth2 hks ⊢
  refine wpAny_bind (wpAny_rule ?_)
  rw [← Array.forIn_toList]
  refine wpAny_bind (keys_loop (ks := ks) _ ?_ vs ss { s with heap := h2 } [] 0 _ hS hl (by simp; omega) (by simpa using hks) ?_)
  · intro y t u s' Q acc n hy hacc hk hq
    refine wpAny_bind (wpAny_attempt (PyProof.Rows.len_str (by omega) ?_))
    refine wpAny_bind (listUpdate_at hk rfl ?_ (by rw [sizeLine_eq]; omega) (by simp only [Array.size_push]; rw [sizeLine_eq]; omega))
    exact wpAny_pure (hq _ _ _ _ (get?_update_seq hk (fun x => x.push (.int y.length (s'.toks + 1)))) ⟨by rw [Heap.size_update], fun c hc => by rw [Heap.get?_update_ne _ _ _ _ hc]⟩)
  intro h3 kv n3 t3 hI hk3 hsb
  simp only [List.nil_append] at hk3
  have hkv : kv.length = vs.length := by have := intsAre_length hI; simp at this; omega
  have ho3 : h3.get? a = some (seqObj "list" #[] e1) := by rw [hsb.2 a hne.symm]; exact ho2
  have hoth3 : ∀ c o, c ≠ a → s.heap.get? c = some o → h3.get? c = some o := fun c o hc hg => by rw [hsb.2 c (hnew c o hg)]; exact hoth2 c o hc hg
  have hsz : vs.toArray.size = vs.length := by simp
  have hstart : (if b = true then (kv.toArray.zip vs.toArray).reverse else kv.toArray.zip vs.toArray).Perm (kv.toArray.zip vs.toArray) := by
    cases b with
    | false => exact Array.Perm.refl _
    | true => exact Array.perm_iff_toList_perm.mpr (by rw [if_pos rfl, Array.toList_reverse]; exact List.reverse_perm _)
  have hzz : (kv.toArray.zip vs.toArray).size = vs.length := by simp; omega
  have hIK : PyProof.Rows.IntKeys (kv.toArray.zip vs.toArray) := by
    intro p hp
    obtain ⟨y, t, tt, rfl⟩ := zip_pairs hI hS p (by simpa using hp)
    exact ⟨_, _, rfl⟩
  refine wpAny_bind (listItems_at hk3 rfl ?_)
  dsimp only
  have step : ∀ t : Sem PySem.Fin, wpAny (model prog w) A t P E { s with heap := h3, toks := t3 } →
      wpAny (model prog w) A (if b = true then (do let _ ← rule "list.sort.reverse"; t) else t) P E { s with heap := h3, toks := t3 } := by
    intro t ht
    split
    · exact wpAny_bind (wpAny_rule ht)
    · exact ht
  refine step _ ?_
  have h4 : ∃ e4, (h3.update ks (Obj.mapSeq fun _ => #[])).get? a = some (seqObj "list" #[] e1) ∧ (h3.update ks (Obj.mapSeq fun _ => #[])).get? ks = some (seqObj "list" #[] e4) :=
    ⟨_, by rw [Heap.get?_update_ne _ _ _ _ hne.symm]; exact ho3, get?_update_seq hk3 (fun _ => #[])⟩
  obtain ⟨e4, ho4, hk4⟩ := h4
  have hoth4 : ∀ c o, c ≠ a → s.heap.get? c = some o → (h3.update ks (Obj.mapSeq fun _ => #[])).get? c = some o := fun c o hc hg => by rw [Heap.get?_update_ne _ _ _ _ (hnew c o hg)]; exact hoth3 c o hc hg
  have hfin : ∀ (st' : SortSt), (arrOf st').Perm (kv.toArray.zip vs.toArray) → SortedTo (arrOf st') (arrOf st').size →
      P (.done (.ret .none)) { s with heap := (h3.update ks (Obj.mapSeq fun _ => #[])).update a (Obj.mapSeq fun _ => if b then ((arrOf st').map (·.2)).reverse else (arrOf st').map (·.2)), toks := t3 } := by
    intro st' hp hs
    obtain ⟨ss', k1, k2, k3⟩ := keyed_out2 hI hS hp hs b
    refine h _ _ _ ss' _ (get?_update_seq ho4 _) ?_ k1 k2 k3
    intro c o hc hg
    rw [Heap.get?_update_ne _ _ _ _ hc]; exact hoth4 c o hc hg
  by_cases h2 : vs.toArray.size < 2
  · rw [if_pos h2, if_pos h2]
    refine wpAny_bind (wpAny_pure ?_)
    rw [StateT.run_pure]
    refine wpAny_bind (wpAny_pure ?_)
    dsimp only
    refine wpAny_bind (listUpdate_at hk3 rfl ?_ (by simp; rw [sizeLine_eq]; omega))
    refine wpAny_bind (wpAny_letGo ?_)
    refine wpAny_bind (seqEpoch_at ho4 rfl ?_)
    refine wpAny_bind (listUpdate_at ho4 rfl ?_ (hsz2 := by
      cases b
      · simp only [Bool.false_eq_true, if_false, Array.size_map]; show (kv.toArray.zip vs.toArray).size ≤ _; rw [hzz, sizeLine_eq]; omega
      · simp only [if_true, Array.size_reverse, Array.size_map]; show (kv.toArray.zip vs.toArray).reverse.size ≤ _; rw [Array.size_reverse, hzz, sizeLine_eq]; omega))
    simp only [bne_self_eq_false, Bool.false_eq_true, if_false]
    refine wpAny_pure (hfin (SortSt.mk' general' (if b = true then (kv.toArray.zip vs.toArray).reverse else kv.toArray.zip vs.toArray) #[] 7 none) hstart ?_)
    intro i j hij hj
    have : (if b = true then (kv.toArray.zip vs.toArray).reverse else kv.toArray.zip vs.toArray).size = vs.length := hstart.size_eq.trans hzz
    have hj' : j < (if b = true then (kv.toArray.zip vs.toArray).reverse else kv.toArray.zip vs.toArray).size := hj
    have : i = j := by omega
    subst this; exact Int.le_refl _
  · rw [if_neg h2, if_neg h2]
    obtain ⟨v₁, v₂, rest, rfl⟩ : ∃ v₁ v₂ rest, kv = v₁ :: v₂ :: rest := by
      rw [hsz, ← hkv] at h2
      match kv, h2 with
      | [], h2 => simp at h2
      | [_], h2 => simp at h2
      | v₁ :: v₂ :: rest, _ => exact ⟨v₁, v₂, rest, rfl⟩
    rw [keyKind_ints hI]
    refine wpAny_bind (wpAny_pure ?_)
    refine wpAny_bind (wpAny_mono (wpS_sortRuns (a₀ := (v₁ :: v₂ :: rest).toArray.zip vs.toArray)
      (st := SortSt.mk' oneType' (if b = true then ((v₁ :: v₂ :: rest).toArray.zip vs.toArray).reverse else (v₁ :: v₂ :: rest).toArray.zip vs.toArray) #[] 7 none)
      (Q := fun _ st' => (arrOf st').Perm ((v₁ :: v₂ :: rest).toArray.zip vs.toArray) ∧ failedOf st' = none ∧ SortedTo (arrOf st') ((v₁ :: v₂ :: rest).toArray.zip vs.toArray).size)
      hIK ⟨hstart, rfl, rfl, rfl⟩ (by rw [hzz]; omega) (by rw [hzz]; exact h64) fun st' a1 a2 a3 => ⟨a1, a2, a3⟩) ?_ fun _ _ e => e)
    rintro ⟨⟨⟩, st'⟩ s' ⟨rfl, hp, hf, hs⟩
    dsimp only
    refine wpAny_bind (listUpdate_at hk3 rfl ?_ (by rw [List.size_toArray, hkv, sizeLine_eq]; omega))
    refine wpAny_bind (wpAny_letGo ?_)
    refine wpAny_bind (seqEpoch_at ho4 rfl ?_)
    refine wpAny_bind (listUpdate_at ho4 rfl ?_ (hsz2 := by
      have e : (Array.map (fun x => x.snd) (arrOf st')).size ≤ sizeLine + 1 := by
        refine Nat.le_trans (Nat.le_of_eq ((Array.size_map ..).trans (hp.size_eq.trans hzz))) ?_; rw [sizeLine_eq]; omega
      split
      · rw [Array.size_reverse]; exact e
      · exact e))
    rw [hf]
    simp only [bne_self_eq_false, Bool.false_eq_true, if_false]
    exact wpAny_pure (hfin st' hp (by rw [hp.size_eq]; exact hs))
end
end
section
section
variable {prog : Program} {w : World} {A : Around} {E : Value → Shared → Prop} {s : Shared}
abbrev colH (h : Heap) (vs : List Value) : Heap := (h.push (seqObj "list" #[] 0)).update h.objs.size (Obj.mapSeq (· ++ vs.toArray))
theorem collect_tup {l : Addr} {vs : List Value} {n : Nat} {Q : List Value → Shared → Prop} (ho : s.heap.get? l = some (seqObj "tuple" vs.toArray n))
    (h : Q vs { s with heap := colH s.heap vs }) (hsz : vs.length ≤ sizeLine) : wpAny (model prog w) A (collect (.ref l)) Q E s := by
  unfold collect
  refine wpAny_bind (wpAny_runValue (codeAny_builtin entry_proto_collect' ?_))
  show wpAny _ _ (do again (.builtin "list.__iadd__" ⟨[← newList [], .ref l], []⟩)) _ _ s
  refine wpAny_bind (wpAny_newList (wpAny_pure ⟨Code.quiet_builtin _ (by decide +kernel), codeAny_builtin entry_list_iadd' ?_⟩))
  show wpAny _ _ (Builtin.List.listExtendWith (.ref s.heap.objs.size) (.ref l) (.ref s.heap.objs.size)) _ _ { s with heap := s.heap.push (seqObj "list" #[] 0) }
  unfold Builtin.List.listExtendWith
  have ho' : (s.heap.push (seqObj "list" #[] 0)).get? l = some (seqObj "tuple" vs.toArray n) := Heap.get?_push_of_some _ ho
  refine wpAny_bind (wpAny_typeOf (T := "tuple") ⟨_, ho', rfl⟩ ?_)
  have ht : (Value.type "tuple" == Value.type "tuple") = true := by rfl
  rw [if_pos (by rw [ht]; simp)]
  refine wpAny_bind (listItems_at ho' rfl ?_)
  refine wpAny_bind (listItems_at (xs := #[]) (n := 0) (Heap.get?_push_size _ rfl) rfl ?_)
  rw [if_neg (by simp)]
  refine wpAny_bind (listUpdate_at (xs := #[]) (n := 0) (Heap.get?_push_size _ rfl) rfl ?_ (Nat.zero_le _) (by show (#[] ++ vs.toArray).size ≤ sizeLine + 1; simp only [Array.size_append, List.size_toArray, List.length_nil]; omega))
  refine wpAny_pure ?_
  show wpAny (model prog w) A (do
      let o ← load s.heap.objs.size
      match o.data with
      | .seq xs _ => pure xs.toList
      | _ => unsupported "internal:collect") Q E { s with heap := (s.heap.push (seqObj "list" #[] 0)).update s.heap.objs.size (Obj.mapSeq (· ++ vs.toArray)) }
  refine wpAny_bind (wpAny_load (get?_update_seq (Heap.get?_push_size _ rfl) _) ?_)
  show wpAny _ _ (pure ((#[] : Array Value) ++ vs.toArray).toList) Q E _
  rw [show ((#[] : Array Value) ++ vs.toArray).toList = vs by simp]
  exact wpAny_pure h
theorem sorted_gen {l : Addr} {vs : List Value} {kw : List (Str × Value)} {Q : Value → Shared → Prop} (ha1 : argsOk "sorted" ⟨[.ref l], kw⟩) (ha2 : ∀ x, argsOk "list.sort" ⟨[.ref x], kw⟩) (h64 : vs.length < 64)
    (hcol : ∀ (A : Around) (E : Value → Shared → Prop) (Q : List Value → Shared → Prop), Q vs { s with heap := colH s.heap vs } → wpAny (model prog w) A (collect (.ref l)) Q E s)
    (h : ∀ (A : Around) h2 a, h2.get? a = some (seqObj "list" vs.toArray 0) → (∀ b o, s.heap.get? b = some o → h2.get? b = some o) → s.heap.objs.size ≤ a →
      wpAny (model prog w) A (Builtin.«list.sort» ⟨[.ref a], kw⟩) (fun fin s' => fin = .done (.ret .none) ∧ Q (.ref a) s') E { s with heap := h2 }) :
    wpAny (model prog w) A (call (.builtin "sorted") [.ref l] kw) Q E s := by
  refine call_function_entry_kw kind_sorted plain_sorted entry_sorted ha1 ?_
  unfold Builtin.«sorted»
  refine wpAny_bind (m := checkCount "sorted" 1 1 _) (wpAny_pure ?_)
  refine wpAny_bind (hcol _ _ _ ?_)
  refine wpAny_bind (wpAny_newList ?_ (by rw [sizeLine_eq]; omega))
  have hsz : (colH s.heap vs).objs.size = s.heap.objs.size + 1 := by
    rw [Heap.size_update, size_push']
  have hoL : ((colH s.heap vs).push (seqObj "list" vs.toArray 0)).get? (s.heap.objs.size + 1) = some (seqObj "list" vs.toArray 0) := by
    rw [← hsz]; exact Heap.get?_push_size _ rfl
  have keep : ∀ b o, s.heap.get? b = some o → ((colH s.heap vs).push (seqObj "list" vs.toArray 0)).get? b = some o := fun b o q => by
    have hlt : b < s.heap.objs.size := Heap.lt_size q
    rw [Heap.get?_push_ne _ _ _ (by rw [hsz]; exact Nat.ne_of_lt (Nat.lt_succ_of_lt hlt)), Heap.get?_update_ne _ _ _ _ (Nat.ne_of_lt hlt), Heap.get?_push_ne _ _ _ (Nat.ne_of_lt hlt)]
    exact q
  show wpAny _ _ _ _ _ { s with heap := (colH s.heap vs).push (seqObj "list" vs.toArray 0) }
  rw [hsz]
  refine wpAny_bind (wpAny_holding (wpAny_call_entry_kw slot_list_sort ⟨_, hoL, rfl⟩ entry_list_sort ?body (ha2 _)))
  case body =>
    refine wpAny_mono (h _ _ _ hoL keep (Nat.le_succ _)) (fun fin s' ⟨h1, h2⟩ => ⟨_, h1, ?_⟩) fun _ _ x => x
    exact wpAny_pure ⟨_, rfl, h2⟩
end
theorem args_sorted_k (b : Bool) (a : Value) : argsOk "sorted" ⟨[a], kwLen b⟩ := by cases b <;> (unfold argsOk; kernel_rfl)
theorem args_sort_k (b : Bool) (a : Value) : argsOk "list.sort" ⟨[a], kwLen b⟩ := by cases b <;> (unfold argsOk; kernel_rfl)
theorem Pt.newAbove {W : Wd} {β : Addr → Option Obj} {L : Addr} {m : Loc} {led : Led} {s : Shared} {o : Obj} {h' : Heap} {a : Addr} (P : Pt W β L m led s) (hk : ∀ b x, s.heap.get? b = some x → h'.get? b = some x) (ha : s.heap.objs.size ≤ a) (ho : h'.get? a = some o) (t : Nat) :
    Pt W β L m ((a, o) :: led) { s with heap := h', toks := t } := by
  have hn : s.heap.get? a = none := by
    cases q : s.heap.get? a with
    | none => rfl
    | some o => exact absurd (Heap.lt_size q) (Nat.not_lt.mpr ha)
  refine P.general (fun b x _ q => hk b x q) (fun p hp => ?_) ?_ t
  · rcases List.mem_cons.mp hp with rfl | hp
    · refine ⟨ho, fun e => ?_, ?_⟩
      · have := P.ns.lt; simp only at e; rw [e] at ha; exact absurd this (Nat.not_lt.mpr ha)
      · cases q : β a with
        | none => rfl
        | some o' => exact absurd (P.ltβ q) (Nat.not_lt.mpr ha)
    · exact ⟨hk _ _ (P.own p hp).1, (P.own p hp).2⟩
  · refine List.nodup_cons.mpr ⟨fun hm => ?_, P.nd⟩
    obtain ⟨p, hp, e⟩ := List.mem_map.mp hm
    have := (P.own p hp).1
    rw [e] at this
    simp only at this
    rw [hn] at this; cases this
section
variable {C : Cx} {m : Loc} {led : Led} {env : Env} {l : Addr} {vs : List Value} {ss : List Str} {Q : Value → Loc → Led → Prop}
theorem r_sortedK {n : Nat} {b : Bool} (hl : Has C led l (listO vs n)) (hS : StrsAre vs ss) (hlen : ∀ y ∈ ss, y.length < 2 ^ 62) (h64 : vs.length < 64)
    (h : ∀ a out ss' k, StrsAre out ss' → ss'.Perm ss → OrdL b ss' → Q (.ref a) m ((a, listO out k) :: led)) : T C m led (call (.builtin "sorted") [.ref l] (kwLen b)) Q := fun s P => by
  refine sorted_gen (args_sorted_k b _) (fun x => args_sort_k b _) h64 (fun A E Q h => collect_list (hl.isList P) h (by rw [sizeLine_eq]; omega)) fun A h2 a ho hk ha => ?_
  rw [list_sort_key]
  refine keyed_tree ho hS hlen h64 fun h3 t3 out ss' e ho3 hk3 h4 h5 h6 => ⟨rfl, m, (a, listO out e) :: led, ?_, h a out ss' e h4 h5 h6⟩
  refine P.newAbove (fun b x q => hk3 b x (fun e => ?_) (hk b x q)) ha ho3 t3
  rw [e] at q; exact absurd (Heap.lt_size q) (Nat.not_lt.mpr ha)
theorem sortS {A : Around} {s : Shared} (P : Pt C.W C.β C.L m led s) (hS : StrsAre vs ss) (h64 : vs.length < 64)
    (h : ∀ a out ss' k, StrsAre out ss' → ss'.Perm ss → sortedS ss' = true → Q (.ref a) m ((a, listO out k) :: led)) {h2 : Heap} {a : Addr} (ho : h2.get? a = some (seqObj "list" vs.toArray 0)) (hk : ∀ b o, s.heap.get? b = some o → h2.get? b = some o) (ha : s.heap.objs.size ≤ a) :
    wpAny (Mo C.W) A (Builtin.«list.sort» ⟨[.ref a], []⟩) (fun fin s' => fin = .done (.ret .none) ∧ ∃ m' led', Pt C.W C.β C.L m' led' s' ∧ Q (.ref a) m' led') C.E { s with heap := h2 } := by
  refine list_sort_treeK (s := { s with heap := h2 }) strKind_oneLt ho hS.keysOf (fun v₁ v₂ rest e => keyKind_strs (by rw [← e]; exact hS)) h64 fun st' hp hs => ⟨rfl, ?_⟩
  obtain ⟨ss', h1, h3, h4⟩ := sorted_out_str hS hp hs
  obtain ⟨e, he⟩ := sortedHeap_at (vs := vs) (out := (arrOf st').map (·.2)) ho
  refine ⟨m, (a, listO ((arrOf st').map (·.2)).toList e) :: led, ?_, h a _ ss' e h1 h3 h4⟩
  refine P.newAbove (fun b x q => ?_) ha he _
  rw [sortedHeap_old (fun e => by rw [e] at q; exact absurd (Heap.lt_size q) (Nat.not_lt.mpr ha)) (Heap.lt_size (hk b x q))]
  exact hk b x q
theorem r_sortedL {n : Nat} (hl : Has C led l (listO vs n)) (hS : StrsAre vs ss) (h64 : vs.length < 64)
    (h : ∀ a out ss' k, StrsAre out ss' → ss'.Perm ss → sortedS ss' = true → Q (.ref a) m ((a, listO out k) :: led)) : T C m led (call (.builtin "sorted") [.ref l]) Q := fun s P =>
  sorted_gen (args_sorted1 _) (fun x => args_list_sort _) h64 (fun A E Q h => collect_list (hl.isList P) h (by rw [sizeLine_eq]; omega)) fun A h2 a ho hk ha => sortS P hS h64 h ho hk ha
theorem r_sortedT (hl : Has C led l (tupO vs)) (hS : StrsAre vs ss) (h64 : vs.length < 64)
    (h : ∀ a out ss' k, StrsAre out ss' → ss'.Perm ss → sortedS ss' = true → Q (.ref a) m ((a, listO out k) :: led)) : T C m led (call (.builtin "sorted") [.ref l]) Q := fun s P =>
  sorted_gen (args_sorted1 _) (fun x => args_list_sort _) h64 (fun A E Q h => collect_tup (hl.get P) h (by rw [sizeLine_eq]; omega)) fun A h2 a ho hk ha => sortS P hS h64 h ho hk ha
theorem r_CallKw {func : Expr} {args : List Expr} {kws : List Keyword} {pos : Pos}
    (h : T C m led (eval func env) fun f m1 l1 => T C m1 l1 (callWith pos f [] (backTo pos (starEach args env)) (backToKw pos (keywordEach kws env))) Q)
    (he : eval (.Call func args kws pos) env = (do callWith pos (← eval func env) [] (backTo pos (starEach args env)) (backToKw pos (keywordEach kws env))) := by rfl) : T C m led (eval (.Call func args kws pos) env) Q := fun s P => by
  rw [he]
  exact wpAny_bind (h.run P fun v s1 m1 l1 P1 h1 => h1 s1 P1)
theorem r_cwKw {pos : Pos} {id : String} {e : Expr} {rest : List Expr} {kws : List Keyword}
    (h : T C m led (spliced (backTo pos (starEach (e :: rest) env))) fun vs m1 l1 => T C m1 l1 (evalAll ((backToKw pos (keywordEach kws env)).map (·.2))) fun kvs m2 l2 => T C m2 l2 (call (.builtin id) vs (((backToKw pos (keywordEach kws env)).filterMap (·.1)).zip kvs)) Q)
    (he : backTo pos (starEach (e :: rest) env) = (false, eval e env) :: backTo pos (starEach rest env) := by rfl)
    (hplain : (backTo pos (starEach (e :: rest) env)).any (·.1) = false := by rfl)
    (hall : (backToKw pos (keywordEach kws env)).all (·.1.isSome) = true := by rfl)
    (hkw : (backToKw pos (keywordEach kws env)).any (·.1.isNone) = false := by rfl) :
    T C m led (callWith pos (.builtin id) [] (backTo pos (starEach (e :: rest) env)) (backToKw pos (keywordEach kws env))) Q := fun s P =>
  callWith_kw (h.run P fun v s1 m1 l1 P1 h1 => h1.run P1 fun kv s2 m2 l2 P2 h2 => h2 s2 P2) he hplain hall hkw
theorem r_kwNil {pos : Pos} {Q : List Value → Loc → Led → Prop} (h : Q [] m led) : T C m led (evalAll ((backToKw pos (keywordEach [] env)).map (·.2))) Q := fun s P => kws_nil ⟨m, led, P, h⟩
theorem r_kwCons {name : Str} {value : Expr} {kp : Pos} {rest : List Keyword} {pos : Pos} {Q : List Value → Loc → Led → Prop}
    (h : T C m led (eval value env) fun v m1 l1 => T C m1 l1 (evalAll ((backToKw pos (keywordEach rest env)).map (·.2))) fun vs => Q (v :: vs)) :
    T C m led (evalAll ((backToKw pos (keywordEach (⟨some name, value, kp⟩ :: rest) env)).map (·.2))) Q := fun s P =>
  kws_cons (h.run P fun v s1 m1 l1 P1 h1 => h1 s1 P1)
end
end
section
section
variable {C : Cx} {m : Loc} {led : Led} {env : Env}
theorem r_gmCount {l : Addr} {vs : List Value} {n : Nat} {pl : Sem Bool} {Q : Value × List Value → Loc → Led → Prop} (hl : Has C led l (listO vs n)) (h : Q (.builtin "list.count", [.ref l]) m led) : T C m led (getMethod (.ref l) "count" pl) Q :=
  r_gmList hl PySem.F.slot_list_count PySem.F.type_list_count h
theorem r_countS {l : Addr} {vs : List Value} {ys : List Str} {n : Nat} {k : Str} {t : Tok} {Q : Value → Loc → Led → Prop} (hl : Has C led l (listO vs n)) (hi : StrsAre vs ys) (h : ∀ t', Q (.int (ys.count k : Nat) t') m led) :
    T C m led (call (.builtin "list.count") [.ref l, .str k t]) Q :=
  fun s P => count_list_strs (hl.isList P) hi ⟨m, led, P.tk _, by rw [cnt_strs]; exact h _⟩
theorem r_maxI {l : Addr} {vs : List Value} {ns : List Int} {n : Nat} {Q : Value → Loc → Led → Prop} (hh : C.A.handled = none) (hl : Has C led l (listO vs n)) (hi : IntsAre vs ns) (hne : 0 < ns.length)
    (h : ∀ M t, M ∈ ns → (∀ a ∈ ns, a ≤ M) → Q (.int M t) m led) : T C m led (call (.builtin "max") [.ref l]) Q :=
  fun s P => max_list_N hh P.fr P.news (hl.isList P) hi hne fun h' M t tk F N h1 h2 => ⟨m, _, P.ofN0 F N tk, h M t h1 h2⟩
theorem r_neB {a b : Bool} {Q : Value → Loc → Led → Prop} (h : Q (.bool (a != b)) m led) : T C m led (compareOp .NotEq (.bool a) (.bool b)) Q := fun s P => PyProof.Rows.ne_bool ⟨m, led, P, h⟩
structure DCin {KK : Type} [DecidableEq KK] (C : Cx) (knd : PySem.KeyKind PG C.W.w KK) (env : Env) (kx vx : Expr) (x : Str) (scope : Scope) (cl : List (Str × Addr)) (Q : Value → Loc → Led → Prop) (m2 : Loc) (I : Addr) (n : Nat) (items : Nat → Value → Led → Prop) (S : Nat → Obj → Prop) (l3 : Led)
    (D L' : Addr) (β' : Addr → Option Obj) (E' : Value → Shared → Prop) (dep : Led → Prop) (K : Nat → List (KK × Value) → Led → Prop) : Prop where
  X : IsIt ⟨C.W, C.A, E', β', L'⟩ I n items S dep
  hdep : ∀ i kvs od l, K i kvs l → dep ((D, od) :: l) ∧ kvs.length ≤ sizeLine
  hK : K 0 [] (cellLed (L' + 1) scope.names l3)
  turn : ∀ i v ex kvs m o od l, i < n → items i v ex → S (i + 1) o → od.IsDictOf knd kvs → K i kvs l → T ⟨C.W, C.A, E', β', L'⟩ m (ex ++ (I, o) :: (D, od) :: l) (storeName (cenvOf scope cl L' env) x v) fun _ m2 l2 =>
          T ⟨C.W, C.A, E', β', L'⟩ m2 l2 (eval kx (cenvOf scope cl L' env)) fun y m4 l4 => T ⟨C.W, C.A, E', β', L'⟩ m4 l4 (eval vx (cenvOf scope cl L' env)) fun z m5 l5 =>
            ∃ k l', knd.is k y = true ∧ List.Perm ((I, o) :: (D, od) :: l') l5 ∧ K (i + 1) (stored kvs k z) l'
  fin : ∀ kvs od l, od.IsDictOf knd kvs → K n kvs l → ∃ l', List.Sublist l' ((D, od) :: l) ∧ Q (.ref D) m2 l'
structure DCOk {KK : Type} [DecidableEq KK] (C : Cx) (knd : PySem.KeyKind PG C.W.w KK) (env : Env) (kx vx : Expr) (x : Str) (scope : Scope) (cl : List (Str × Addr)) (Q : Value → Loc → Led → Prop) (it : Value) (m2 : Loc) (l2 : Led) (I : Addr) (n : Nat) (items : Nat → Value → Led → Prop) (S : Nat → Obj → Prop) (o : Obj) (l3 : Led) : Prop where
  e : it = .ref I
  hsub : List.Sublist ((I, o) :: l3) l2
  hS : S 0 o
  h2 : ∀ (D L' : Addr) (β' : Addr → Option Obj) (E' : Value → Shared → Prop), (D == sysModules) = false → Up C.β β' → ∃ dep K, DCin C knd env kx vx x scope cl Q m2 I n items S l3 D L' β' E' dep K
theorem r_DC {KK : Type} [DecidableEq KK] (knd : PySem.KeyKind PG C.W.w KK) {kx vx iter : Expr} {x : Str} {px : Pos} {scope : Scope} {cl : List (Str × Addr)} {pos pos' : Pos} {Q : Value → Loc → Led → Prop}
    (hclos : closureFor scope env = pure cl) (hkind : scope.kind = .function) (hnames : ∀ y ∈ scope.names, y.2 = .local → scope.names.lookup y.1 = some .local)
    (h : T C m led (eval iter env) fun xv m1 l1 => T C m1 l1 (pyIter xv) fun it m2 l2 => ∃ I n items S o l3, DCOk C knd env kx vx x scope cl Q it m2 l2 I n items S o l3)
    (hs : ∀ x, foldedSetIterable iter env x = pure x := by intro _; rfl) :
    T C m led (comprehension (.DictComp kx vx [⟨.Name x px, iter, [], 0⟩] scope pos) scope env pos' newDict false (eval iter env) none) Q := by
  refine r_compDict hclos hkind hnames (h.mono fun xv m1 l1 h1 => r_post (h1.mono fun it m2 l2 h2 => ?_)) hs
  obtain ⟨I, n, items, S, o, l3, F⟩ := h2
  refine ⟨_, F.hsub, I, F.e, fun D L' β' E' hD up => ?_⟩
  obtain ⟨dep, K, G⟩ := F.h2 D L' β' E' hD up
  refine ⟨fun k m' l' => ∃ i o kvs od l, k = n - i ∧ i ≤ n ∧ List.Perm l' ((I, o) :: (D, od) :: l) ∧ S i o ∧ od.IsDictOf knd kvs ∧ K i kvs l, n, ⟨0, o, [], dictO0, _, rfl, Nat.zero_le _, ?_, F.hS, dictO_new, G.hK⟩, ?_, ?_⟩
  · exact ((cellLed_cons _ _ _ _).trans ((cellLed_cons _ _ _ _).cons _)).trans (.swap _ _ _)
  · rintro k m' l' ⟨i, o, kvs, od, l, rfl, hi, hp, hS, hd, hk⟩
    refine r_perm ?_ hp.symm
    refine G.X.self E' i o m' _ _ hS (G.hdep _ _ _ _ hk).1 ⟨rfl, i, o, kvs, od, l, rfl, hi, .refl _, hS, hd, hk⟩
  · rintro k m' l' ⟨i, o, kvs, od, l, rfl, hi, hp, hS, hd, hk⟩
    refine r_perm ?_ hp.symm
    by_cases hlt : i < n
    · refine G.X.it.item E' i o m' _ _ hlt hS (G.hdep _ _ _ _ hk).1 fun v o' ex hv hS' => ?_
      refine (G.turn i v ex kvs m' o' od l hlt hv hS' hd hk).mono fun _ m2 l2 h2 => r_tests0 ?_
      simp only [if_true]
      refine h2.mono fun y m4 l4 h4 => h4.mono fun z m5 l5 h5 => ?_
      obtain ⟨kk, l6, hkk, hp6, hk6⟩ := h5
      refine r_perm ?_ hp6
      refine r_dictSet (pre := [(I, o')]) (post := l6) rfl hd hkk (G.hdep _ _ od _ hk).2 fun od' hd' => ?_
      exact ⟨_, n - (i + 1), .refl _, by omega, i + 1, o', _, od', l6, rfl, by omega, .refl _, hS', hd', hk6⟩
    · obtain rfl : i = n := by omega
      refine G.X.it.done E' o m' _ _ hS (G.hdep _ _ _ _ hk).1 ?_
      obtain ⟨l7, h7, h8⟩ := G.fin kvs od l hd hk
      exact ⟨l7, h7, h8⟩
end
section
variable {C : Cx} {m : Loc} {led : Led} {env : Env}
structure LClOk (C : Cx) (env : Env) (elt : Expr) (x : Str) (ifs : List Expr) (scope : Scope) (cl : List (Str × Addr)) (use : Option (Value → Sem Unit)) (Q : Value → Loc → Led → Prop) (xv : Value) (m1 : Loc) (l1 : Led) (l : Addr) (vs : List Value) (n : Nat) (K : Nat → List Value → Prop) : Prop where
  e : xv = .ref l
  hl : Has C l1 l (listO vs n)
  hz : vs.length ≤ 1000000
  hK0 : K 0 []
  hKl : ∀ i ys, K i ys → ys.length ≤ i
  turn : ∀ (L' : Addr) (β' : Addr → Option Obj) (E' : Value → Shared → Prop) i v ys m a b, Up C.β β' → vs[i]? = some v → K i ys →
        T ⟨C.W, C.A, E', β', L'⟩ m (a :: b :: l1) (storeName (cenvOf scope cl L' env) x v) fun _ m2 l2 => T ⟨C.W, C.A, E', β', L'⟩ m2 l2 (testsT ifs (cenvOf scope cl L' env)) fun ok m3 l3 =>
          if ok = true then T ⟨C.W, C.A, E', β', L'⟩ m3 l3 (eval elt (cenvOf scope cl L' env)) fun y m4 l4 => List.Sublist (a :: b :: l1) l4 ∧ K (i + 1) (ys ++ [y])
          else List.Sublist (a :: b :: l1) l3 ∧ K (i + 1) ys
  fin : ∀ D L' ys k, K vs.length ys → CompEnd C use D L' Q m1 ((D, listO ys k) :: l1)
theorem r_LCl {elt iter : Expr} {x : Str} {px : Pos} {ifs : List Expr} {scope : Scope} {cl : List (Str × Addr)} {pos pos' : Pos} {use : Option (Value → Sem Unit)} {Q : Value → Loc → Led → Prop} (hh : C.A.handled = none)
    (hclos : closureFor scope env = pure cl) (hkind : scope.kind = .function) (hnames : ∀ y ∈ scope.names, y.2 = .local → scope.names.lookup y.1 = some .local)
    (h : T C m led (eval iter env) fun xv m1 l1 => ∃ l vs n K, LClOk C env elt x ifs scope cl use Q xv m1 l1 l vs n K)
    (hnc : ∀ n l, cellLed n scope.names l = l := by intro _ _; rfl)
    (hs : ∀ x, foldedSetIterable iter env x = pure x := by intro _; rfl) :
    T C m led (comprehension (.ListComp elt [⟨.Name x px, iter, ifs, 0⟩] scope pos) scope env pos' (newList []) false (eval iter env) use) Q := by
  refine r_LC hclos hkind hnames (h.mono fun xv m1 l1 h1 => ?_) hs
  obtain ⟨l, vs, n, K, F⟩ := h1
  obtain rfl := F.e
  refine r_iterList F.hl fun it hne => ?_
  refine ⟨it, vs.length, fun i v ex => vs[i]? = some v ∧ ex = [], LiO l, liO l 0, l1, rfl, .refl _, ⟨rfl, rfl⟩, F.hz, fun D L2 β2 E2 up2 => ?_⟩
  refine ⟨_, fun i ys l' => l' = l1 ∧ K i ys, it_list (n := n) hh hne, ?_, ⟨hnc _ _, F.hK0⟩, ?_, ?_⟩
  · rintro i ys l' k2 ⟨rfl, hK⟩
    exact ⟨Has.tail F.hl, F.hKl i ys hK⟩
  · rintro i v ex ys m2 o2 k2 l' hi2 ⟨hv, rfl⟩ hS ⟨rfl, hK⟩
    refine (F.turn L2 β2 E2 i v ys m2 (it, o2) (D, listO ys k2) up2 hv hK).mono fun _ m3 l3 h3 => h3.mono fun ok m4 l4 h4 => ?_
    cases ok with
    | false =>
      simp only [Bool.false_eq_true, if_false] at h4 ⊢
      exact ⟨_, h4.1, rfl, h4.2⟩
    | true =>
      simp only [if_true] at h4 ⊢
      exact h4.mono fun y m5 l5 h5 => ⟨_, h5.1, rfl, h5.2⟩
  · rintro ys l' k2 ⟨rfl, hK⟩
    exact ⟨_, .refl _, F.fin D L2 ys k2 hK⟩
end
theorem filt_step {ss : List Str} {i : Nat} {z : Str} (p : Str → Bool) (h : ss[i]? = some z) : (ss.take (i + 1)).filter p = (ss.take i).filter p ++ (if p z = true then [z] else []) := by
  rw [List.take_add_one, h, List.filter_append]
  cases q : p z <;> simp [q]
theorem strs_filt {ys : List Value} {ss : List Str} {i : Nat} {z : Str} {t : Tok} {p : Str → Bool} (hz : ss[i]? = some z) (h : StrsAre ys ((ss.take i).filter p)) (hp : p z = true) : StrsAre (ys ++ [.str z t]) ((ss.take (i + 1)).filter p) := by
  rw [filt_step p hz, if_pos hp]
  exact strsAre_snoc h
theorem strs_filt0 {ys : List Value} {ss : List Str} {i : Nat} {z : Str} {p : Str → Bool} (hz : ss[i]? = some z) (h : StrsAre ys ((ss.take i).filter p)) (hp : p z = false) : StrsAre ys ((ss.take (i + 1)).filter p) := by
  rw [filt_step p hz, if_neg (by simp [hp]), List.append_nil]
  exact h
theorem strs_filt_len {ys : List Value} {ss : List Str} {i : Nat} {p : Str → Bool} (h : StrsAre ys ((ss.take i).filter p)) : ys.length ≤ i := by
  rw [strsAre_len h]
  exact Nat.le_trans (List.length_filter_le _ _) (by rw [List.length_take]; omega)
end
local macro_rules | `(tactic| walk_at "enterC") => `(tactic| ((case R => walk_at "room"); (case ho => k_is); (case hcd => k_is); (case hbind => exact rfl); (case hloc => exact rfl); (case hco => exact rfl); (case hgen => exact rfl); (case hk => exact rfl)))
local macro_rules | `(tactic| walk_at "enterK") => `(tactic| ((case R => walk_at "room"); (case hm => k_is); (case hi => k_is); (case hf => k_is); (case ho => k_is); (case hcd => k_is); (case hco => exact rfl); (case hgen => exact rfl); (case hk => exact rfl)))
local macro_rules | `(tactic| walk_at "slotK") => `(tactic| ((case hs => k_is); (case hp => k_is); (case ht => k_is); (case hT => k_is); (case hi => k_is); (case hz => decide)))
namespace F6
open F1 F2 F3 F4 F5
section
variable {C : Cx} {m : Loc} {led : Led} {Q : Value → Loc → Led → Prop}
def ModesOk (N : Nat) (kvs : List (Str × Value)) : Prop := kvs.length ≤ N ∧ ∀ p ∈ kvs, (∃ a : P1, TxOk a.1 a.2 ∧ p.1 = tx a) ∧ ∃ n t, p.2 = .int n t
theorem ifT {X Y : Prop} (h : X) : if true = true then X else Y := h
theorem intsAre_snoc {vs : List Value} {ns : List Int} {n : Int} {t : Tok} (h : IntsAre vs ns) : IntsAre (vs ++ [.int n t]) (ns ++ [n]) := by
  induction h with
  | nil => exact .cons n t .nil
  | cons z u _ ih => exact .cons z u ih
def T1 (a : P1) : Prop := (∀ c ∈ a.2, rawC c) ∧ 1 ≤ a.2.length ∧ a.2.length ≤ 3
def Md1 (kvs : List (Str × Value)) : Prop := kvs.length ≤ 5 ∧ ∀ p ∈ kvs, (∃ a : P1, T1 a ∧ p.1 = tx a) ∧ ∃ n t, p.2 = .int n t
theorem md1_0 (t1 t2 t3 : Tok) : Md1 [(Str.ofString ".a", .int 16876 t1), (Str.ofString "b.a", .int 10249 t2), (Str.ofString ".b.a", .int 33184 t3)] := by
  refine ⟨by simp, fun p hp => ?_⟩
  simp only [List.mem_cons, List.not_mem_nil, or_false] at hp
  rcases hp with rfl | rfl | rfl
  · exact ⟨⟨(true, [97]), ⟨by intro c hc; simp at hc; subst hc; exact .inl rfl, by decide, by decide⟩, rfl⟩, _, _, rfl⟩
  · exact ⟨⟨(false, [98, 97]), ⟨by intro c hc; simp at hc; rcases hc with rfl | rfl <;> simp [rawC], by decide, by decide⟩, rfl⟩, _, _, rfl⟩
  · exact ⟨⟨(true, [98, 97]), ⟨by intro c hc; simp at hc; rcases hc with rfl | rfl <;> simp [rawC], by decide, by decide⟩, rfl⟩, _, _, rfl⟩
theorem mod4 (x : Int) : 0 ≤ x.fmod 4 ∧ x.fmod 4 < 4 := by rw [Int.fmod_eq_emod_of_nonneg _ (by decide)]; omega
theorem pyl_four (a : Int) (n : Nat) (h : n ≤ 2) : Builtin.divisionGoesByPylong a (4 ^ n) = false := by
  obtain rfl | rfl | rfl : n = 0 ∨ n = 1 ∨ n = 2 := by omega
  all_goals (unfold Builtin.divisionGoesByPylong; rfl)
theorem fits_small {i : Int} (h0 : -8 ≤ i) (h1 : i < 8) : fitsSsize i = true := by
  unfold fitsSsize
  have e1 : ¬ i < -(2 ^ 63 : Int) := by omega
  have e2 : ¬ i ≥ (2 ^ 63 : Int) := by omega
  rw [decide_eq_false e1, decide_eq_false e2]; rfl
theorem raw_item {j : Int} (h : 0 ≤ j ∧ j < 4) : ∃ c, Txt.item (Str.ofString "aAb7") j = sg c ∧ rawC c := by
  obtain rfl | rfl | rfl | rfl : j = 0 ∨ j = 1 ∨ j = 2 ∨ j = 3 := by omega
  · exact ⟨97, rfl, by simp [rawC]⟩
  · exact ⟨65, rfl, by simp [rawC]⟩
  · exact ⟨98, rfl, by simp [rawC]⟩
  · exact ⟨55, rfl, by simp [rawC]⟩
theorem join_sg (cs : List Nat) (h1 : 1 ≤ cs.length) (h3 : cs.length ≤ 3) : Txt.join (Str.ofString ".") (cs.map sg) = mkT false cs ∧ JoinOk (Str.ofString ".") (cs.map sg) = true := by
  match cs, h1, h3 with
  | [a], _, _ => exact ⟨rfl, rfl⟩
  | [a, b], _, _ => exact ⟨rfl, rfl⟩
  | [a, b, c], _, _ => exact ⟨rfl, rfl⟩
theorem dot_sg (cs : List Nat) : Str.ofString "." ++ mkT false cs = mkT true cs := by
  unfold mkT
  apply congrArg Str.mk
  simp
  rfl
theorem CompEnd.nul {D L' : Addr} {Q : Value → Loc → Led → Prop} (h : Q (.ref D) m led) : CompEnd C none D L' Q m led := h
theorem md1_stored {kvs : List (Str × Value)} {a : P1} {n : Int} {t : Tok} (h : Md1 kvs) (ha : T1 a) (hb : ((valueAt kvs (tx a)).isSome || decide ((kvs.length : Int) < 5)) = true) : Md1 (stored kvs (tx a) (.int n t)) := by
  obtain ⟨h1, h2⟩ := h
  unfold stored
  split
  · refine ⟨by simpa using h1, fun p hp => ?_⟩
    obtain ⟨q, hq, rfl⟩ := List.mem_map.mp hp
    split
    · exact ⟨(h2 q hq).1, n, t, rfl⟩
    · exact h2 q hq
  · rename_i hany
    have hno : (valueAt kvs (tx a)).isSome = false := by
      unfold valueAt
      cases hf : kvs.find? (fun kv => decide (kv.1 = tx a)) with
      | none => rfl
      | some q =>
        exfalso; apply hany
        rw [List.any_eq_true]
        exact ⟨q, List.mem_of_find?_eq_some hf, by simpa using List.find?_some hf⟩
    rw [hno, Bool.false_or, decide_eq_true_eq] at hb
    refine ⟨by simp; omega, fun p hp => ?_⟩
    rcases List.mem_append.mp hp with hp | hp
    · exact h2 p hp
    · simp only [List.mem_singleton] at hp
      subst hp
      exact ⟨⟨a, ha, rfl⟩, n, t, rfl⟩
theorem mkT_pos (d : Bool) (l : List Nat) (h : 1 ≤ l.length) : 1 ≤ (mkT d l).length := by
  match l, h with
  | a :: r, _ => cases d <;> cases r <;> simp [mkT, Str.length, List.intersperse]
theorem item0 {dd : Bool} {l : List Nat} (h : T1 (dd, l)) : (Txt.item (tx (dd, l)) 0 == Str.ofString ".") = dd := by
  obtain ⟨h1, h2, h3⟩ := h
  have key : ∀ (a : Nat) (x : Str), rawC a → x = sg a → (x == Str.ofString ".") = false := by
    intro a x ha e
    rw [e]
    rcases ha with rfl | rfl | rfl | rfl <;> decide
  match l, h1, h2, h3 with
  | [a], h1, _, _ => cases dd
                     · exact key a _ (h1 a (by simp)) rfl
                     · rfl
  | [a, b], h1, _, _ => cases dd
                        · exact key a _ (h1 a (by simp)) rfl
                        · rfl
  | [a, b, c], h1, _, _ => cases dd
                           · exact key a _ (h1 a (by simp)) rfl
                           · rfl
theorem b_dot (l : List Nat) (h : 1 ≤ l.length) : Str.ofString "b" ++ mkT true l = mkT false (98 :: l) := by
  match l, h with
  | a :: r, _ =>
    unfold mkT
    apply congrArg Str.mk
    simp [List.intersperse]
    rfl
theorem b_nodot (l : List Nat) (h : 1 ≤ l.length) : Str.ofString "b." ++ mkT false l = mkT false (98 :: l) := by
  match l, h with
  | a :: r, _ =>
    unfold mkT
    apply congrArg Str.mk
    simp [List.intersperse]
    rfl
theorem host_ok {dd : Bool} {l : List Nat} (h : T1 (dd, l)) : TxOk false (98 :: l) := by
  obtain ⟨h1, h2, h3⟩ := h
  refine ⟨fun c hc => ?_, ?_⟩
  · rcases List.mem_cons.mp hc with rfl | hc
    · simp [rawC]
    · exact h1 c hc
  · simp only at h2 h3
    by_cases h4 : l.length = 3
    · exact .inr ⟨rfl, l, rfl, h4⟩
    · exact .inl ⟨by simp, by simp; omega⟩
theorem t1_ok {a : P1} (h : T1 a) : TxOk a.1 a.2 := ⟨h.1, .inl h.2⟩
theorem md1_modes {kvs : List (Str × Value)} (h : Md1 kvs) : ModesOk 10 kvs := ⟨by have := h.1; omega, fun p hp => let ⟨⟨a, h1, h2⟩, h3⟩ := h.2 p hp; ⟨⟨a, t1_ok h1, h2⟩, h3⟩⟩
theorem modes_stored {kvs : List (Str × Value)} {a : P1} {n : Int} {t : Tok} (h : ModesOk 10 kvs) (ha : TxOk a.1 a.2) (hl : (stored kvs (tx a) (.int n t)).length ≤ 10) : ModesOk 10 (stored kvs (tx a) (.int n t)) := by
  refine ⟨hl, ?_⟩
  obtain ⟨h1, h2⟩ := h
  unfold stored
  split
  · intro p hp
    obtain ⟨q, hq, rfl⟩ := List.mem_map.mp hp
    split
    · exact ⟨(h2 q hq).1, n, t, rfl⟩
    · exact h2 q hq
  · intro p hp
    rcases List.mem_append.mp hp with hp | hp
    · exact h2 p hp
    · simp only [List.mem_singleton] at hp
      subst hp
      exact ⟨⟨a, ha, rfl⟩, n, t, rfl⟩
theorem modes_spec {sl : Addr} {vs : List Value} {ns : List Int} {k : Nat} (R : Room C 4) (hl : Has C led sl (listO vs k)) (hi : IntsAre vs ns) (h63 : vs.length ≤ 63)
    (h : ∀ d o kvs, (d == sysModules) = false → o.IsDictOf (strKind PG C.W.w) kvs → ModesOk 10 kvs → Q (.ref d) m ((d, o) :: led)) : T C m led (call (.ref 285) [.ref sl]) Q := by
  refine' r_callDefC (binds := [("script", .ref sl)]) (k := 3) ?R ?ho ?hcd ?hbind ?hloc ?hco ?hgen ?hk fun A' E' β' L' R' up => ?_
  walk_at "enterC"
  show T _ _ ((L' + 1, cellO none) :: led) _ _
  have hU := Has.up (A' := A') (E' := E') (β' := β') (L' := L') hl up
  with_reducible refine r_consQ fun QQ hQQ => ?_
  refine r_Assign ?_
  with_reducible refine' r_DispT (C := { W := C.W, A := A', E := E', β := β', L := L' }) (strKind PG C.W.w) ?da ?db ?dc ?dd fun d hd0 => ?_
  (case da => exact rfl)
  (case db => exact rfl)
  (case dc => exact List.cons_ne_nil _ _)
  (case dd => decide)
  refine r_pairsCons ?_
  refine r_str fun u1 => ?_
  refine r_dispVal ?_
  refine r_int fun t1 => ?_
  refine r_pairsCons ?_
  refine r_str fun u2 => ?_
  refine r_dispVal ?_
  refine r_int fun t2 => ?_
  refine r_pairsCons ?_
  refine r_str fun u3 => ?_
  refine r_dispVal ?_
  refine r_int fun t3 => ?_
  refine r_pairsNil ?_
  refine ⟨[(Str.ofString ".a", .int 16876 t1), (Str.ofString "b.a", .int 10249 t2), (Str.ofString ".b.a", .int 33184 t3)], _, by simp only [Carries, strKind_is]; simp, .refl _, fun o ho => ?_⟩
  refine r_store rfl rfl rfl ?_
  with_reducible refine leafN (by assumption) ?_
  with_reducible refine r_consQ fun QQ hQQ => ?_
  refine r_ForList R'.h ?_
  refine r_ListComp ?_
  refine' r_LC ?hcl ?hkd ?hnm ?_
  (case hcl => exact rfl)
  (case hkd => exact rfl)
  (case hnm => decide)
  with_reducible refine r_Sub ?_
  refine r_local rfl rfl rfl rfl ?_
  with_reducible refine r_Slice ?_
  with_reducible refine r_partNone ?_
  with_reducible refine r_partSome ?_
  with_reducible refine r_int fun zt => ?_
  with_reducible refine r_partNone ?_
  intro as
  refine r_sliceList (lo := none) (hi := some 63) (by walk_at "has") Has.head .none (.int _ _) (by rw [sizeLine_eq]; omega) fun a => ?_
  refine r_iterList Has.head fun it hne => ?_
  rw [show (slicePick vs.toArray none (some 63) none).toList = vs by
    rw [show (63 : Int) = ((63 : Nat) : Int) from rfl, slicePick_upto']; exact List.take_of_length_le h63]
  refine ⟨it, vs.length, fun i v ex => vs[i]? = some v ∧ ex = [], LiO a, liO a 0, (a, listO vs 0) :: (d, o) :: (L' + 1, cellO none) :: led, rfl, by walk_at "sub", ⟨rfl, rfl⟩, by omega, fun D L2 β2 E2 up2 => ?_⟩
  refine ⟨_, fun i ys l => l = (a, listO vs 0) :: (d, o) :: (L' + 1, cellO none) :: led ∧ ∃ ms, IntsAre ys ms ∧ ys.length = i ∧ ∀ x ∈ ms, 0 ≤ x ∧ x < 1000000, it_list (n := 0) R'.h hne, ?_, ?_, ?_, ?_⟩
  · rintro i ys l k2 ⟨rfl, ms, h1, h2, h3⟩
    exact ⟨by walk_at "has", by omega⟩
  · exact ⟨rfl, [], .nil, rfl, by simp⟩
  · rintro i v ex ys m2 o2 k2 l hi2 ⟨hv, rfl⟩ hS ⟨rfl, ms, h1, h2, h3⟩
    obtain ⟨x, tx, hx, rfl⟩ := intsAre_get hi hv
    refine r_store rfl rfl rfl ?_
    refine r_tests0 (ifT ?_)
    with_reducible refine r_BinOp ?_
    refine r_local rfl rfl rfl rfl ?_
    with_reducible refine r_BinOp ?_
    with_reducible refine r_int fun zt => ?_
    with_reducible refine r_int fun zt => ?_
    refine r_pow (by decide) (by decide) (by decide) fun t4 => ?_
    refine r_mod (by decide) fun t5 => ?_
    refine ⟨_, .refl _, rfl, ms ++ [_], intsAre_snoc h1, by simp [h2], fun y hy => ?_⟩
    rcases List.mem_append.mp hy with hy | hy
    · exact h3 y hy
    · simp only [List.mem_singleton] at hy
      subst hy
      show 0 ≤ x.fmod 1000000 ∧ x.fmod 1000000 < 1000000
      rw [Int.fmod_eq_emod_of_nonneg _ (by decide)]
      omega
  · rintro ys l k2 ⟨rfl, ms, h1, h2, h3⟩
    refine ⟨(D, listO ys k2) :: (d, o) :: (L' + 1, cellO none) :: led, by walk_at "sub", ?_⟩
    refine ⟨D, ys, k2, fun i m' l' => Ex3 fun o kvs c => A4 (l' = (D, listO ys k2) :: (d, o) :: (L' + 1, cellO c) :: led) (o.IsDictOf (strKind PG C.W.w) kvs) (Md1 kvs) (m' "modes" = some (.ref d)), rfl, Has.head, ?_, ?_, ?_, ?_⟩
    · rintro i m' l' ⟨o, kvs, c, rfl, _⟩; exact Has.head
    · rw [merged_nil_of_nodup _ (by simp only [List.map]; decide)] at ho
      exact ⟨o, _, none, rfl, ho, md1_0 _ _ _, by walk_at "look"⟩
    · rintro E3 I o3 i v m' l' hv ⟨o, kvs, c, rfl, hd, hm1, hm2⟩
      obtain ⟨x, tx, hx, rfl⟩ := intsAre_get h1 hv
      have hx6 := h3 x (List.mem_of_getElem? hx)
      refine r_store rfl rfl rfl ?_
      with_reducible refine r_consQ fun QQ hQQ => ?_
      refine r_Assign ?_
      with_reducible refine r_BinOp ?_
      with_reducible refine r_int fun zt => ?_
      with_reducible refine r_BinOp ?_
      with_reducible refine r_BinOp ?_
      refine r_local rfl rfl rfl rfl ?_
      with_reducible refine r_int fun zt => ?_
      refine r_fdiv (by decide) (by rfl) fun t4 => ?_
      with_reducible refine r_int fun zt => ?_
      refine r_mod (by decide) fun t5 => ?_
      with_reducible refine r_add fun zt => ?_
      refine r_store rfl rfl rfl ?_
      with_reducible refine leafN (by assumption) ?_
      with_reducible refine r_consQ fun QQ hQQ => ?_
      refine r_Assign ?_
      with_reducible refine r_BinOp ?_
      refine r_local rfl rfl rfl rfl ?_
      with_reducible refine r_int fun zt => ?_
      refine r_fdiv (by decide) (by rfl) fun t6 => ?_
      refine r_storeCell (pre := [_, _, _]) rfl rfl rfl rfl ?_
      with_reducible refine leafN (by assumption) ?_
      with_reducible refine r_consQ fun QQ hQQ => ?_
      refine r_Assign ?_
      refine r_MCall ?_
      with_reducible refine r_str fun zt => ?_
      with_reducible refine r_gmJoin ?_
      refine r_cwB ?_
      refine r_argCons ?_
      generalize hcn : 1 + (x.fdiv 2).fmod 3 = cn
      generalize hrs : x.fdiv 6 = rs
      have hcn3 : 1 ≤ cn ∧ cn ≤ 3 := by
        rw [← hcn, Int.fmod_eq_emod_of_nonneg _ (by decide)]
        omega
      refine r_ListComp ?_
      refine' r_LC ?hcl ?hkd ?hnm ?_
      (case hcl => exact rfl)
      (case hkd => exact rfl)
      (case hnm => decide)
      refine r_Call ?_
      (refine' r_builtin rfl rfl rfl rfl ?e ?hv ?hn ?_; (case e => k_is); (case hv => boot_by_name); (case hn => decide))
      refine r_cwT ?_
      refine r_argCons ?_
      refine r_local rfl rfl rfl rfl ?_
      with_reducible refine r_argNil ?_
      refine r_range1 fun r t7 t8 => ?_
      refine r_iterRange (n := cn.toNat) Has.head (by split <;> omega) (by decide) (by decide) (by omega) (by omega) fun it2 => ?_
      refine ⟨it2, cn.toNat, fun i v ex => (∃ t, v = .int (0 + (i : Nat)) t) ∧ ex = [], fun i o => o = riO (0 + (i : Nat)) 1 ((cn.toNat : Int) - (i : Nat)), _, (I, o3) :: (D, listO ys k2) :: (d, o) :: (L' + 1, cellO (some (.int rs t6))) :: led, rfl, by walk_at "sub", by simp, by omega, fun D2 L3 β3 E4 up3 => ?_⟩
      refine ⟨fun _ => True, fun i zs l => l = (I, o3) :: (D, listO ys k2) :: (d, o) :: (L' + 1, cellO (some (.int rs t6))) :: led ∧ zs.length = i ∧ ∃ cs : List Nat, StrsAre zs (cs.map sg) ∧ ∀ c ∈ cs, rawC c, it_range R'.h, ?_, ?_, ?_, ?_⟩
      · rintro i zs l k3 ⟨rfl, h4, _⟩; exact ⟨trivial, by omega⟩
      · exact ⟨rfl, rfl, [], .nil, by simp⟩
      · rintro j v ex zs m3 o4 k3 l hj ⟨⟨tj, rfl⟩, rfl⟩ hS ⟨rfl, h4, cs, h5, h6⟩
        refine r_store rfl rfl rfl ?_
        refine r_tests0 (ifT ?_)
        with_reducible refine r_Sub ?_
        with_reducible refine r_str fun zt => ?_
        with_reducible refine r_BinOp ?_
        with_reducible refine r_BinOp ?_
        (refine' r_cell rfl ?hl ?hc ?hv ?_; (case hl => first | exact Or.inl rfl | exact Or.inr rfl); (case hc => exact rfl); (case hv => walk_at "has"))
        with_reducible refine r_BinOp ?_
        with_reducible refine r_int fun zt => ?_
        refine r_local rfl rfl rfl rfl ?_
        refine r_pow (by omega) (by omega) (by decide) fun t9 => ?_
        refine r_fdiv (Int.ne_of_gt (Int.pow_pos (by decide))) (pyl_four _ _ (by omega)) fun t10 => ?_
        with_reducible refine r_int fun zt => ?_
        refine r_mod (by decide) fun t11 => ?_
        have hjj := mod4 (rs.fdiv (4 ^ (0 + (j : Int)).toNat))
        refine r_itemStr (fits_small (by omega) (by omega)) (by show (-4 : Int) ≤ _; omega) (by show _ < (4 : Int); omega) fun t12 => ?_
        obtain ⟨c4, hc4, hr4⟩ := raw_item hjj
        rw [hc4]
        exact ⟨_, .refl _, rfl, by simp [h4], cs ++ [c4], by rw [List.map_append]; exact strsAre_snoc h5, fun c hc => by
          rcases List.mem_append.mp hc with hc | hc
          · exact h6 c hc
          · simp only [List.mem_singleton] at hc; rw [hc]; exact hr4⟩
      · rintro zs l k3 ⟨rfl, h4, cs, h5, h6⟩
        refine ⟨(D2, listO zs k3) :: (I, o3) :: (D, listO ys k2) :: (d, o) :: (L' + 1, cellO (some (.int rs t6))) :: led, by walk_at "sub", ?_⟩
        have hcl : cs.length = cn.toNat := by have := strsAre_len h5; simp at this; omega
        obtain ⟨hj1, hj2⟩ := join_sg cs (by omega) (by omega)
        refine CompEnd.nul ?_
        with_reducible refine r_argNil ?_
        refine r_join Has.head h5 hj2 fun t13 => ?_
        rw [hj1]
        refine r_drop (led' := (I, o3) :: (D, listO ys k2) :: (d, o) :: (L' + 1, cellO (some (.int rs t6))) :: led) ?_ (by walk_at "sub")
        refine r_store rfl rfl rfl ?_
        with_reducible refine leafN (by assumption) ?_
        with_reducible refine r_consQ fun QQ hQQ => ?_
        refine r_If ?_
        with_reducible refine r_isCmp ?_
        with_reducible refine r_BinOp ?_
        refine r_local rfl rfl rfl rfl ?_
        with_reducible refine r_int fun zt => ?_
        refine r_mod (by decide) fun t14 => ?_
        with_reducible refine r_int fun zt => ?_
        with_reducible refine r_eqI ?_
        with_reducible refine r_tBool ?_
        refine iteB (fun hb => ?_) (fun hb => ?_)
        · with_reducible refine r_consQ fun QQ hQQ => ?_
          refine r_Assign ?_
          with_reducible refine r_BinOp ?_
          with_reducible refine r_str fun zt => ?_
          refine r_local rfl rfl rfl rfl ?_
          refine r_addS (by rw [sizeLine_eq]; have := mkT_len false cs; show 1 + _ ≤ _; omega) fun t15 => ?_
          rw [dot_sg]
          refine r_store rfl rfl rfl ?_
          with_reducible refine leafN (by assumption) ?_
          with_reducible refine r_nil ?_
          with_reducible refine leafN (by assumption) ?_
          with_reducible refine r_consQ fun QQ hQQ => ?_
          refine r_Assign ?_
          with_reducible refine r_BinOp ?_
          (refine' r_cell rfl ?hl ?hc ?hv ?_; (case hl => first | exact Or.inl rfl | exact Or.inr rfl); (case hc => exact rfl); (case hv => walk_at "has"))
          with_reducible refine r_int fun zt => ?_
          refine r_fdiv (by decide) (by rfl) fun t16 => ?_
          refine r_storeCell (pre := [_, _, _]) rfl rfl rfl rfl ?_
          with_reducible refine leafN (by assumption) ?_
          with_reducible refine r_consQ fun QQ hQQ => ?_
          refine r_If (Tst.run (B1 := (valueAt kvs (mkT true cs)).isSome || decide ((kvs.length : Int) < 5)) ?cc ?_)
          (case cc =>
            refine Tst.or ?_ (fun _ => Tst.or1 ?_)
            · with_reducible refine r_isCmp ?_
              refine r_local rfl rfl rfl rfl ?_
              (refine' r_local rfl rfl rfl ?hv ?_; (case hv => walk_at "look"))
              refine r_dIn (by walk_at "has") hd hd0 (strKind_is _ _ _ _) ?_
              with_reducible refine r_tBool ?_
              exact ⟨rfl, rfl, .refl _⟩
            · with_reducible refine r_isCmp ?_
              refine r_Call ?_
              (refine' r_builtin rfl rfl rfl rfl ?e ?hv ?hn ?_; (case e => k_is); (case hv => boot_by_name); (case hn => decide))
              refine r_cwB ?_
              refine r_argCons ?_
              (refine' r_local rfl rfl rfl ?hv ?_; (case hv => walk_at "look"))
              with_reducible refine r_argNil ?_
              refine r_lenDict (by walk_at "has") hd hd0 (by have := hm1.1; omega) fun t17 => ?_
              with_reducible refine r_int fun zt => ?_
              with_reducible refine r_ltI ?_
              with_reducible refine r_tBool ?_
              exact ⟨rfl, rfl, .refl _⟩)
          refine iteB (fun hb2 => ?_) (fun hb2 => ?_)
          · with_reducible refine r_consQ fun QQ hQQ => ?_
            refine r_AssignSub ?_
            with_reducible refine r_BinOp ?_
            with_reducible refine r_BinOp ?_
            with_reducible refine r_BinOp ?_
            with_reducible refine r_BinOp ?_
            with_reducible refine r_int fun zt => ?_
            with_reducible refine r_int fun zt => ?_
            refine r_pow (by decide) (by decide) (by decide) fun t18 => ?_
            refine r_local rfl rfl rfl rfl ?_
            refine r_mul (IntMulOk.of_left (by decide)) fun t19 => ?_
            with_reducible refine r_BinOp ?_
            with_reducible refine r_BinOp ?_
            (refine' r_cell rfl ?hl ?hc ?hv ?_; (case hl => first | exact Or.inl rfl | exact Or.inr rfl); (case hc => exact rfl); (case hv => walk_at "has"))
            with_reducible refine r_int fun zt => ?_
            refine r_mod (by decide) fun t20 => ?_
            with_reducible refine r_int fun zt => ?_
            refine r_mul (IntMulOk.of_right (by decide)) fun t21 => ?_
            with_reducible refine r_add fun zt => ?_
            with_reducible refine r_BinOp ?_
            with_reducible refine r_BinOp ?_
            with_reducible refine r_BinOp ?_
            (refine' r_cell rfl ?hl ?hc ?hv ?_; (case hl => first | exact Or.inl rfl | exact Or.inr rfl); (case hc => exact rfl); (case hv => walk_at "has"))
            with_reducible refine r_int fun zt => ?_
            refine r_fdiv (by decide) (by rfl) fun t22 => ?_
            with_reducible refine r_int fun zt => ?_
            refine r_mul (IntMulOk.of_right (by decide)) fun t23 => ?_
            with_reducible refine r_int fun zt => ?_
            refine r_mod (by decide) fun t24 => ?_
            with_reducible refine r_add fun zt => ?_
            (refine' r_local rfl rfl rfl ?hv ?_; (case hv => walk_at "look"))
            refine r_local rfl rfl rfl rfl ?_
            refine r_dSetItem (pre := [_, _]) rfl hd (strKind_is _ _ _ _) (by have := hm1.1; rw [sizeLine_eq]; omega) fun o5 ho5 => ?_
            with_reducible refine leafN (by assumption) ?_
            with_reducible refine r_nil ?_
            with_reducible refine leafN (by assumption) ?_
            with_reducible refine r_nil ?_
            exact TurnF.next _ (.refl _) ⟨o5, _, _, rfl, ho5, md1_stored hm1 (a := (true, cs)) ⟨h6, (by show 1 ≤ cs.length; omega), (by show cs.length ≤ 3; omega)⟩ hb2, by walk_at "look"⟩
          · with_reducible refine r_nil ?_
            with_reducible refine leafN (by assumption) ?_
            with_reducible refine r_nil ?_
            exact TurnF.next _ (.refl _) ⟨o, kvs, _, rfl, hd, hm1, by walk_at "look"⟩
        · with_reducible refine r_nil ?_
          with_reducible refine leafN (by assumption) ?_
          with_reducible refine r_consQ fun QQ hQQ => ?_
          refine r_Assign ?_
          with_reducible refine r_BinOp ?_
          (refine' r_cell rfl ?hl ?hc ?hv ?_; (case hl => first | exact Or.inl rfl | exact Or.inr rfl); (case hc => exact rfl); (case hv => walk_at "has"))
          with_reducible refine r_int fun zt => ?_
          refine r_fdiv (by decide) (by rfl) fun t16 => ?_
          refine r_storeCell (pre := [_, _, _]) rfl rfl rfl rfl ?_
          with_reducible refine leafN (by assumption) ?_
          with_reducible refine r_consQ fun QQ hQQ => ?_
          refine r_If (Tst.run (B1 := (valueAt kvs (mkT false cs)).isSome || decide ((kvs.length : Int) < 5)) ?cc ?_)
          (case cc =>
            refine Tst.or ?_ (fun _ => Tst.or1 ?_)
            · with_reducible refine r_isCmp ?_
              refine r_local rfl rfl rfl rfl ?_
              (refine' r_local rfl rfl rfl ?hv ?_; (case hv => walk_at "look"))
              refine r_dIn (by walk_at "has") hd hd0 (strKind_is _ _ _ _) ?_
              with_reducible refine r_tBool ?_
              exact ⟨rfl, rfl, .refl _⟩
            · with_reducible refine r_isCmp ?_
              refine r_Call ?_
              (refine' r_builtin rfl rfl rfl rfl ?e ?hv ?hn ?_; (case e => k_is); (case hv => boot_by_name); (case hn => decide))
              refine r_cwB ?_
              refine r_argCons ?_
              (refine' r_local rfl rfl rfl ?hv ?_; (case hv => walk_at "look"))
              with_reducible refine r_argNil ?_
              refine r_lenDict (by walk_at "has") hd hd0 (by have := hm1.1; omega) fun t17 => ?_
              with_reducible refine r_int fun zt => ?_
              with_reducible refine r_ltI ?_
              with_reducible refine r_tBool ?_
              exact ⟨rfl, rfl, .refl _⟩)
          refine iteB (fun hb2 => ?_) (fun hb2 => ?_)
          · with_reducible refine r_consQ fun QQ hQQ => ?_
            refine r_AssignSub ?_
            with_reducible refine r_BinOp ?_
            with_reducible refine r_BinOp ?_
            with_reducible refine r_BinOp ?_
            with_reducible refine r_BinOp ?_
            with_reducible refine r_int fun zt => ?_
            with_reducible refine r_int fun zt => ?_
            refine r_pow (by decide) (by decide) (by decide) fun t18 => ?_
            refine r_local rfl rfl rfl rfl ?_
            refine r_mul (IntMulOk.of_left (by decide)) fun t19 => ?_
            with_reducible refine r_BinOp ?_
            with_reducible refine r_BinOp ?_
            (refine' r_cell rfl ?hl ?hc ?hv ?_; (case hl => first | exact Or.inl rfl | exact Or.inr rfl); (case hc => exact rfl); (case hv => walk_at "has"))
            with_reducible refine r_int fun zt => ?_
            refine r_mod (by decide) fun t20 => ?_
            with_reducible refine r_int fun zt => ?_
            refine r_mul (IntMulOk.of_right (by decide)) fun t21 => ?_
            with_reducible refine r_add fun zt => ?_
            with_reducible refine r_BinOp ?_
            with_reducible refine r_BinOp ?_
            with_reducible refine r_BinOp ?_
            (refine' r_cell rfl ?hl ?hc ?hv ?_; (case hl => first | exact Or.inl rfl | exact Or.inr rfl); (case hc => exact rfl); (case hv => walk_at "has"))
            with_reducible refine r_int fun zt => ?_
            refine r_fdiv (by decide) (by rfl) fun t22 => ?_
            with_reducible refine r_int fun zt => ?_
            refine r_mul (IntMulOk.of_right (by decide)) fun t23 => ?_
            with_reducible refine r_int fun zt => ?_
            refine r_mod (by decide) fun t24 => ?_
            with_reducible refine r_add fun zt => ?_
            (refine' r_local rfl rfl rfl ?hv ?_; (case hv => walk_at "look"))
            refine r_local rfl rfl rfl rfl ?_
            refine r_dSetItem (pre := [_, _]) rfl hd (strKind_is _ _ _ _) (by have := hm1.1; rw [sizeLine_eq]; omega) fun o5 ho5 => ?_
            with_reducible refine leafN (by assumption) ?_
            with_reducible refine r_nil ?_
            with_reducible refine leafN (by assumption) ?_
            with_reducible refine r_nil ?_
            exact TurnF.next _ (.refl _) ⟨o5, _, _, rfl, ho5, md1_stored hm1 (a := (false, cs)) ⟨h6, (by show 1 ≤ cs.length; omega), (by show cs.length ≤ 3; omega)⟩ hb2, by walk_at "look"⟩
          · with_reducible refine r_nil ?_
            with_reducible refine leafN (by assumption) ?_
            with_reducible refine r_nil ?_
            exact TurnF.next _ (.refl _) ⟨o, kvs, _, rfl, hd, hm1, by walk_at "look"⟩
    · rintro E3 m' l' ⟨o, kvs, c, rfl, hd, hm1, hm2⟩
      refine r_drop (led' := (d, o) :: led) ?_ (by walk_at "sub")
      with_reducible refine r_nil ?_
      with_reducible refine leafN (by assumption) ?_
      with_reducible refine r_consQ fun QQ hQQ => ?_
      refine r_ForList R'.h ?_
      refine r_Call ?_
      (refine' r_builtin rfl rfl rfl rfl ?e ?hv ?hn ?_; (case e => k_is); (case hv => boot_by_name); (case hn => decide))
      refine r_cwT ?_
      refine r_argCons ?_
      (refine' r_local rfl rfl rfl ?hv ?_; (case hv => walk_at "look"))
      with_reducible refine r_argNil ?_
      refine r_listDict R'.h Has.head hd hd0 (by have := hm1.1; omega) fun a5 ts n5 hl5 hg5 => ?_
      refine ⟨a5, ts, n5, fun i m2 l2 => Ex2 fun o2 kvs2 => A5 (l2 = (a5, listO ts n5) :: (d, o2) :: led) (o2.IsDictOf (strKind PG C.W.w) kvs2) (kvs2.length ≤ 5 + i) (ModesOk 10 kvs2) (m2 "modes" = some (.ref d)), rfl, Has.head, ?_, ?_, ?_, ?_⟩
      · rintro i m2 l2 ⟨o2, kvs2, rfl, _⟩; exact Has.head
      · exact ⟨o, kvs, rfl, hd, hm1.1, md1_modes hm1, hm2⟩
      · rintro E5 I o3 i v m2 l2 hv ⟨o2, kvs2, rfl, hd2, hc2, hm3, hm4⟩
        obtain ⟨key, x5, hk5, hv5⟩ := hg5 i v hv
        obtain ⟨u5, rfl⟩ := Value.isStrOf_shape hv5
        have hi5 : i < 5 := by
          have := (List.getElem?_eq_some_iff.mp hk5).1
          have := hm1.1
          omega
        obtain ⟨⟨a6, ha6, hk6⟩, _⟩ := hm1.2 _ (List.mem_of_getElem? hk5)
        simp only at hk6
        subst hk6
        obtain ⟨dd, l6⟩ := a6
        have hl6 : 1 ≤ l6.length ∧ l6.length ≤ 3 := ha6.2
        have hml := mkT_len dd l6
        have hml2 := mkT_pos dd l6 hl6.1
        refine r_store rfl rfl rfl ?_
        with_reducible refine r_consQ fun QQ hQQ => ?_
        refine r_Assign ?_
        with_reducible refine r_IfExp ?_
        with_reducible refine r_isCmp ?_
        with_reducible refine r_Sub ?_
        refine r_local rfl rfl rfl rfl ?_
        with_reducible refine r_int fun zt => ?_
        refine r_itemStr (by decide) (by omega) (by show (0 : Int) < ((mkT dd l6).length : Int); omega) fun t4 => ?_
        with_reducible refine r_str fun zt => ?_
        with_reducible refine r_eqS ?_
        with_reducible refine r_tBool ?_
        have h0 := item0 (dd := dd) (l := l6) ha6
        cases dd
        · refine iteB (fun hb => absurd hb (by rw [h0]; decide)) (fun hb => ?_)
          with_reducible refine r_BinOp ?_
          with_reducible refine r_str fun zt => ?_
          refine r_local rfl rfl rfl rfl ?_
          refine r_addS (by rw [sizeLine_eq]; show 2 + (mkT false l6).length ≤ _; omega) fun t6 => ?_
          rw [show Str.ofString "b." ++ tx (false, l6) = mkT false (98 :: l6) from b_nodot l6 hl6.1]
          refine r_store rfl rfl rfl ?_
          with_reducible refine leafN (by assumption) ?_
          with_reducible refine r_consQ fun QQ hQQ => ?_
          refine r_If ?_
          with_reducible refine r_isCmp ?_
          refine r_local rfl rfl rfl rfl ?_
          (refine' r_local rfl rfl rfl ?hv ?_; (case hv => walk_at "look"))
          refine r_dNotIn (by walk_at "has") hd2 hd0 (strKind_is _ _ _ _) ?_
          with_reducible refine r_tBool ?_
          refine iteB (fun hb5 => ?_) (fun hb5 => ?_)
          · with_reducible refine r_consQ fun QQ hQQ => ?_
            refine r_AssignSub ?_
            with_reducible refine r_int fun zt => ?_
            (refine' r_local rfl rfl rfl ?hv ?_; (case hv => walk_at "look"))
            refine r_local rfl rfl rfl rfl ?_
            refine r_dSetItem (pre := [_, _]) rfl hd2 (strKind_is _ _ _ _) (by rw [sizeLine_eq]; omega) fun o5 ho5 => ?_
            with_reducible refine leafN (by assumption) ?_
            with_reducible refine r_nil ?_
            with_reducible refine leafN (by assumption) ?_
            with_reducible refine r_nil ?_
            exact TurnF.next _ (.refl _) ⟨o5, _, rfl, ho5, Nat.le_trans (stored_length_le _ _ _) (by omega), modes_stored hm3 (a := (false, 98 :: l6)) (host_ok ha6) (Nat.le_trans (stored_length_le _ _ _) (by omega)), by walk_at "look"⟩
          · with_reducible refine r_nil ?_
            with_reducible refine leafN (by assumption) ?_
            with_reducible refine r_nil ?_
            exact TurnF.next _ (.refl _) ⟨o2, kvs2, rfl, hd2, by omega, hm3, by walk_at "look"⟩
        · refine iteB (fun hb => ?_) (fun hb => absurd (h0.symm.trans hb) (by decide))
          with_reducible refine r_BinOp ?_
          with_reducible refine r_str fun zt => ?_
          refine r_local rfl rfl rfl rfl ?_
          refine r_addS (by rw [sizeLine_eq]; show 1 + (mkT true l6).length ≤ _; omega) fun t6 => ?_
          rw [show Str.ofString "b" ++ tx (true, l6) = mkT false (98 :: l6) from b_dot l6 hl6.1]
          refine r_store rfl rfl rfl ?_
          with_reducible refine leafN (by assumption) ?_
          with_reducible refine r_consQ fun QQ hQQ => ?_
          refine r_If ?_
          with_reducible refine r_isCmp ?_
          refine r_local rfl rfl rfl rfl ?_
          (refine' r_local rfl rfl rfl ?hv ?_; (case hv => walk_at "look"))
          refine r_dNotIn (by walk_at "has") hd2 hd0 (strKind_is _ _ _ _) ?_
          with_reducible refine r_tBool ?_
          refine iteB (fun hb5 => ?_) (fun hb5 => ?_)
          · with_reducible refine r_consQ fun QQ hQQ => ?_
            refine r_AssignSub ?_
            with_reducible refine r_int fun zt => ?_
            (refine' r_local rfl rfl rfl ?hv ?_; (case hv => walk_at "look"))
            refine r_local rfl rfl rfl rfl ?_
            refine r_dSetItem (pre := [_, _]) rfl hd2 (strKind_is _ _ _ _) (by rw [sizeLine_eq]; omega) fun o5 ho5 => ?_
            with_reducible refine leafN (by assumption) ?_
            with_reducible refine r_nil ?_
            with_reducible refine leafN (by assumption) ?_
            with_reducible refine r_nil ?_
            exact TurnF.next _ (.refl _) ⟨o5, _, rfl, ho5, Nat.le_trans (stored_length_le _ _ _) (by omega), modes_stored hm3 (a := (false, 98 :: l6)) (host_ok ha6) (Nat.le_trans (stored_length_le _ _ _) (by omega)), by walk_at "look"⟩
          · with_reducible refine r_nil ?_
            with_reducible refine leafN (by assumption) ?_
            with_reducible refine r_nil ?_
            exact TurnF.next _ (.refl _) ⟨o2, kvs2, rfl, hd2, by omega, hm3, by walk_at "look"⟩
      · rintro E5 m2 l2 ⟨o2, kvs2, rfl, hd2, hc2, hm3, hm4⟩
        with_reducible refine r_nil ?_
        with_reducible refine leafN (by assumption) ?_
        with_reducible refine r_consQ fun QQ hQQ => ?_
        with_reducible refine r_Ret ?_
        (refine' r_local rfl rfl rfl ?hv ?_; (case hv => walk_at "look"))
        with_reducible refine leafR (by assumption) ?_
        exact ⟨(d, o2) :: led, by walk_at "sub", h d o2 kvs2 hd0 hd2 hm3⟩
end
end F6
namespace FL
open F1 F2
section
variable {C : Cx} {m : Loc} {led : Led} {Q : Value → Loc → Led → Prop}
def sgn (k : Int) : Str := if k = 1 then "p" else if k = 2 then "c" else if k = 4 then "d" else if k = 6 then "b" else if k = 8 then "-" else if k = 10 then "l" else if k = 12 then "s" else "?"
def third (k : Nat) : Str := "-x" ++ Txt.item "SST" k ++ Txt.item "sst" k
def lsF (mode : Int) (ns : List Int) : Nat → Str
  | 0 => sgn ((mode.fdiv 4096).fmod 16)
  | k + 1 => ((lsF mode ns k ++ (if (bitF (8 - 3 * k) ns 0 != 0) = true then ("r" : Str) else "-")) ++ (if (bitF (7 - 3 * k) ns 0 != 0) = true then ("w" : Str) else "-")) ++ Txt.item (third k) (2 * bitF (11 - k) ns 0 + bitF (6 - 3 * k) ns 0)
theorem sgn_get (u1 u2 u3 u4 u5 u6 u7 : Tok) (k : Int) (u : Tok) : ∃ t, (valueAt [((1 : Int), Value.str "p" u1), (2, .str "c" u2), (4, .str "d" u3), (6, .str "b" u4), (8, .str "-" u5), (10, .str "l" u6), (12, .str "s" u7)] k).getD (.str "?" u) = .str (sgn k) t := by
  unfold sgn valueAt
  simp only [List.find?_cons, List.find?_nil]
  by_cases h1 : k = 1
  · subst h1; exact ⟨u1, rfl⟩
  by_cases h2 : k = 2
  · subst h2; exact ⟨u2, rfl⟩
  by_cases h3 : k = 4
  · subst h3; exact ⟨u3, rfl⟩
  by_cases h4 : k = 6
  · subst h4; exact ⟨u4, rfl⟩
  by_cases h5 : k = 8
  · subst h5; exact ⟨u5, rfl⟩
  by_cases h6 : k = 10
  · subst h6; exact ⟨u6, rfl⟩
  by_cases h7 : k = 12
  · subst h7; exact ⟨u7, rfl⟩
  simp only [Ne.symm h1, Ne.symm h2, Ne.symm h3, Ne.symm h4, Ne.symm h5, Ne.symm h6, Ne.symm h7, decide_false, if_neg h1, if_neg h2, if_neg h3, if_neg h4, if_neg h5, if_neg h6, if_neg h7]
  exact ⟨u, rfl⟩
theorem bitF_01 (bit : Int) : ∀ (ns : List Int) (t : Int), (t = 0 ∨ t = 1) → (bitF bit ns t = 0 ∨ bitF bit ns t = 1)
  | [], t, h => h
  | mode :: rest, t, h => by
    have hm : ∀ x : Int, x.fmod 2 = 0 ∨ x.fmod 2 = 1 := fun x => by rw [Int.fmod_eq_emod_of_nonneg _ (by decide)]; omega
    unfold bitF
    simp only
    split
    · omega
    · split
      · exact h
      · split
        · exact hm _
        · split
          · exact bitF_01 bit rest _ (hm _)
          · exact bitF_01 bit rest _ h
theorem sgn_len (k : Int) : (sgn k).length = 1 := by
  unfold sgn
  repeat' split
  all_goals rfl
theorem lsF_len (mode : Int) (ns : List Int) : ∀ k, k < 3 → (lsF mode ns k).length = 1 + 3 * k
  | 0, _ => sgn_len _
  | k + 1, h => by
    unfold lsF
    rw [Str.length_append, Str.length_append, Str.length_append, lsF_len mode ns k (by omega)]
    have e1 : ∀ (b : Bool) (x y : Str), x.length = 1 → y.length = 1 → (if b = true then x else y).length = 1 := by intro b x y h1 h2; cases b <;> simp [h1, h2]
    rw [e1 _ _ _ rfl rfl, e1 _ _ _ rfl rfl]
    show 1 + 3 * k + 1 + 1 + 1 = _
    omega
theorem fits_small {i : Int} (h0 : -8 ≤ i) (h1 : i < 8) : fitsSsize i = true := by
  unfold fitsSsize
  have e1 : ¬ i < -(2 ^ 63 : Int) := by omega
  have e2 : ¬ i ≥ (2 ^ 63 : Int) := by omega
  rw [decide_eq_false e1, decide_eq_false e2]; rfl
theorem item_len {x : Str} {i : Int} (h0 : -(x.length : Int) ≤ i) (h1 : i < x.length) : (Txt.item x i).length = 1 := rfl
theorem third_len (i : Nat) (h : i < 3) : (("-x" ++ Txt.item "SST" i ++ Txt.item "sst" i : Str)).length = 4 := by
  obtain rfl | rfl | rfl : i = 0 ∨ i = 1 ∨ i = 2 := by omega
  all_goals rfl
theorem one_len {b : Bool} {x y : Str} (h1 : x.length = 1 := by rfl) (h2 : y.length = 1 := by rfl) : (if b = true then x else y).length = 1 := by cases b <;> simp [h1, h2]
theorem r_IfStr {env : Env} {test : Expr} {x y : Str} {k k' : Nat} {p p' pos : Pos} {Q : Value → Loc → Led → Prop} (h : T C m led (isTrue test env (eval test env)) fun c m1 l1 => ∀ t, Q (.str (if c = true then x else y) t) m1 l1) :
    T C m led (eval (.IfExp test (.Constant (.str x) k p) (.Constant (.str y) k' p') pos) env) Q :=
  r_IfExp (h.mono fun c m1 l1 h1 => by
    cases c
    · exact r_str h1
    · exact r_str h1)
theorem listing_spec {l : Addr} {vs : List Value} {ns : List Int} {k : Nat} {mode : Int} {t : Tok} (R : Room C 4) (hl : Has C led l (listO vs k)) (hi : IntsAre vs ns)
    (h : ∀ t', Q (.str (lsF mode ns 3) t') m led) : T C m led (call (.ref 313) [.int mode t, .ref l]) Q := by
  refine' r_callDef (binds := [("mode", .int mode t), ("chain", .ref l)]) (k := 3) ?R ?ho ?hcd ?hbind ?hloc ?hco ?hgen ?hk ?hcell fun A' E' β' L' R' up => ?_
  walk_at "enter"
  have hU := Has.up (A' := A') (E' := E') (β' := β') (L' := L') hl up
  with_reducible refine r_consQ fun QQ hQQ => ?_
  refine r_Assign ?_
  refine r_MCall ?_
  with_reducible refine' r_DispT (C := { W := C.W, A := A', E := E', β := β', L := L' }) (intKind PG C.W.w) ?da ?db ?dc ?dd fun a ha => ?_
  (case da => exact rfl)
  (case db => exact rfl)
  (case dc => exact List.cons_ne_nil _ _)
  (case dd => decide)
  refine r_pairsCons ?_
  refine r_int fun t1 => ?_
  refine r_dispVal ?_
  refine r_str fun u1 => ?_
  refine r_pairsCons ?_
  refine r_int fun t2 => ?_
  refine r_dispVal ?_
  refine r_str fun u2 => ?_
  refine r_pairsCons ?_
  refine r_int fun t3 => ?_
  refine r_dispVal ?_
  refine r_str fun u3 => ?_
  refine r_pairsCons ?_
  refine r_int fun t4 => ?_
  refine r_dispVal ?_
  refine r_str fun u4 => ?_
  refine r_pairsCons ?_
  refine r_int fun t5 => ?_
  refine r_dispVal ?_
  refine r_str fun u5 => ?_
  refine r_pairsCons ?_
  refine r_int fun t6 => ?_
  refine r_dispVal ?_
  refine r_str fun u6 => ?_
  refine r_pairsCons ?_
  refine r_int fun t7 => ?_
  refine r_dispVal ?_
  refine r_str fun u7 => ?_
  refine r_pairsNil ?_
  refine ⟨[(1, .str "p" u1), (2, .str "c" u2), (4, .str "d" u3), (6, .str "b" u4), (8, .str "-" u5), (10, .str "l" u6), (12, .str "s" u7)], led, by simp only [Carries, intKind_is]; simp, .refl _, fun o ho => ?_⟩
  rw [merged_nil_of_nodup _ (by simp)] at ho
  refine r_gmDict Has.head ho PySem.F.slot_dict_get PySem.F.type_dict_get ?_
  refine r_cwB ?_
  refine r_argCons ?_
  with_reducible refine r_BinOp ?_
  with_reducible refine r_BinOp ?_
  refine r_local rfl rfl rfl rfl ?_
  with_reducible refine r_int fun zt => ?_
  refine r_fdiv (by decide) (pyl_4096 _) fun t8 => ?_
  with_reducible refine r_int fun zt => ?_
  refine r_mod (by decide) fun t9 => ?_
  refine r_argCons ?_
  with_reducible refine r_str fun zt => ?_
  with_reducible refine r_argNil ?_
  refine r_dGet2 Has.head ho ha (intKind_is _ _ _ _) ?_
  obtain ⟨ts, hts⟩ := sgn_get u1 u2 u3 u4 u5 u6 u7 ((mode.fdiv 4096).fmod 16) (by assumption)
  rw [hts]
  refine r_store rfl rfl rfl ?_
  with_reducible refine leafN (by assumption) ?_
  with_reducible refine r_consQ fun QQ hQQ => ?_
  refine r_ForRange R'.h ?_
  refine r_Call ?_
  (refine' r_builtin rfl rfl rfl rfl ?e ?hv ?hn ?_; (case e => k_is); (case hv => boot_by_name); (case hn => decide))
  refine r_cwT ?_
  refine r_argCons ?_
  with_reducible refine r_int fun zt => ?_
  with_reducible refine r_argNil ?_
  refine r_range1 fun r t1 t2 => ?_
  refine ⟨r, 3, _, _, _, fun i m' l' => A3 (l' = led) (m' "chain" = some (.ref l)) (∃ ts, m' "signs" = some (.str (lsF mode ns i) ts)), rfl, by decide, Has.head, ?_, ?_, ?_⟩
  · exact ⟨led, by walk_at "sub", rfl, by walk_at "look", ts, by walk_at "look"⟩
  · rintro E'' I o3 i m' l' tk hi3 ⟨rfl, hc, ts2, hsg⟩
    have hL : (lsF mode ns i).length = 1 + 3 * i := lsF_len mode ns i hi3
    refine r_store rfl rfl rfl ?_
    with_reducible refine r_consQ fun QQ hQQ => ?_
    refine r_AugName ?_
    (refine' r_loadLocal rfl rfl rfl ?hv ?_; (case hv => walk_at "look"))
    with_reducible refine r_IfStr ?_
    refine r_isPlain ?_
    refine r_Call ?_
    (refine' r_global rfl rfl rfl ?e ?_; (case e => k_is))
    refine' r_cwK ?hf ?_; (case hf => k_is)
    refine r_argCons ?_
    (refine' r_local rfl rfl rfl ?hv ?_; (case hv => walk_at "look"))
    refine r_argCons ?_
    with_reducible refine r_BinOp ?_
    with_reducible refine r_int fun zt => ?_
    with_reducible refine r_BinOp ?_
    with_reducible refine r_int fun zt => ?_
    refine r_local rfl rfl rfl rfl ?_
    refine r_mul (IntMulOk.of_left (by decide)) fun t3 => ?_
    with_reducible refine r_sub fun zt => ?_
    with_reducible refine r_argNil ?_
    (refine' bit_spec ?R ?hl ?hi ?b0 ?b1 ?_; (case R => walk_at "room"); (case hl => walk_at "has"); (case hi => assumption); (case b0 => omega); (case b1 => omega); intro zt)
    with_reducible refine r_tInt ?_
    have b1 := bitF_01 (11 - i) ns 0 (.inl rfl)
    have b2 := bitF_01 (6 - 3 * i) ns 0 (.inl rfl)
    intro t4
    refine r_iaddS (by rw [hL, sizeLine_eq, one_len]; omega) fun t5 => ?_
    refine r_store rfl rfl rfl ?_
    with_reducible refine leafN (by assumption) ?_
    with_reducible refine r_consQ fun QQ hQQ => ?_
    refine r_AugName ?_
    (refine' r_loadLocal rfl rfl rfl ?hv ?_; (case hv => walk_at "look"))
    with_reducible refine r_IfStr ?_
    refine r_isPlain ?_
    refine r_Call ?_
    (refine' r_global rfl rfl rfl ?e ?_; (case e => k_is))
    refine' r_cwK ?hf ?_; (case hf => k_is)
    refine r_argCons ?_
    (refine' r_local rfl rfl rfl ?hv ?_; (case hv => walk_at "look"))
    refine r_argCons ?_
    with_reducible refine r_BinOp ?_
    with_reducible refine r_int fun zt => ?_
    with_reducible refine r_BinOp ?_
    with_reducible refine r_int fun zt => ?_
    refine r_local rfl rfl rfl rfl ?_
    refine r_mul (IntMulOk.of_left (by decide)) fun t5 => ?_
    with_reducible refine r_sub fun zt => ?_
    with_reducible refine r_argNil ?_
    (refine' bit_spec ?R ?hl ?hi ?b0 ?b1 ?_; (case R => walk_at "room"); (case hl => walk_at "has"); (case hi => assumption); (case b0 => omega); (case b1 => omega); intro zt)
    with_reducible refine r_tInt ?_
    intro t6
    refine r_iaddS (by rw [Str.length_append, hL, sizeLine_eq, one_len, one_len]; omega) fun t7 => ?_
    refine r_store rfl rfl rfl ?_
    with_reducible refine leafN (by assumption) ?_
    with_reducible refine r_consQ fun QQ hQQ => ?_
    refine r_Assign ?_
    with_reducible refine r_BinOp ?_
    with_reducible refine r_BinOp ?_
    with_reducible refine r_str fun zt => ?_
    with_reducible refine r_Sub ?_
    with_reducible refine r_str fun zt => ?_
    refine r_local rfl rfl rfl rfl ?_
    refine r_itemStr (fits_small (by omega) (by omega)) (by show (-3 : Int) ≤ _; omega) (by show _ < (3 : Int); omega) fun t7 => ?_
    refine r_addS (by rw [sizeLine_eq, item_len (by show (-3 : Int) ≤ _; omega) (by show _ < (3 : Int); omega)]; decide) fun t8 => ?_
    with_reducible refine r_Sub ?_
    with_reducible refine r_str fun zt => ?_
    refine r_local rfl rfl rfl rfl ?_
    refine r_itemStr (fits_small (by omega) (by omega)) (by show (-3 : Int) ≤ _; omega) (by show _ < (3 : Int); omega) fun t9 => ?_
    refine r_addS (by rw [sizeLine_eq, Str.length_append, item_len (by show (-3 : Int) ≤ _; omega) (by show _ < (3 : Int); omega), item_len (by show (-3 : Int) ≤ _; omega) (by show _ < (3 : Int); omega)]; decide) fun t10 => ?_
    refine r_store rfl rfl rfl ?_
    with_reducible refine leafN (by assumption) ?_
    with_reducible refine r_consQ fun QQ hQQ => ?_
    refine r_AugName ?_
    (refine' r_loadLocal rfl rfl rfl ?hv ?_; (case hv => walk_at "look"))
    with_reducible refine r_Sub ?_
    refine r_local rfl rfl rfl rfl ?_
    with_reducible refine r_BinOp ?_
    with_reducible refine r_BinOp ?_
    with_reducible refine r_int fun zt => ?_
    refine r_Call ?_
    (refine' r_global rfl rfl rfl ?e ?_; (case e => k_is))
    refine' r_cwK ?hf ?_; (case hf => k_is)
    refine r_argCons ?_
    (refine' r_local rfl rfl rfl ?hv ?_; (case hv => walk_at "look"))
    refine r_argCons ?_
    with_reducible refine r_BinOp ?_
    with_reducible refine r_int fun zt => ?_
    refine r_local rfl rfl rfl rfl ?_
    with_reducible refine r_sub fun zt => ?_
    with_reducible refine r_argNil ?_
    (refine' bit_spec ?R ?hl ?hi ?b0 ?b1 ?_; (case R => walk_at "room"); (case hl => walk_at "has"); (case hi => assumption); (case b0 => omega); (case b1 => omega); intro zt)
    refine r_mul (IntMulOk.of_left (by decide)) fun t11 => ?_
    refine r_Call ?_
    (refine' r_global rfl rfl rfl ?e ?_; (case e => k_is))
    refine' r_cwK ?hf ?_; (case hf => k_is)
    refine r_argCons ?_
    (refine' r_local rfl rfl rfl ?hv ?_; (case hv => walk_at "look"))
    refine r_argCons ?_
    with_reducible refine r_BinOp ?_
    with_reducible refine r_int fun zt => ?_
    with_reducible refine r_BinOp ?_
    with_reducible refine r_int fun zt => ?_
    refine r_local rfl rfl rfl rfl ?_
    refine r_mul (IntMulOk.of_left (by decide)) fun t12 => ?_
    with_reducible refine r_sub fun zt => ?_
    with_reducible refine r_argNil ?_
    (refine' bit_spec ?R ?hl ?hi ?b0 ?b1 ?_; (case R => walk_at "room"); (case hl => walk_at "has"); (case hi => assumption); (case b0 => omega); (case b1 => omega); intro zt)
    with_reducible refine r_add fun zt => ?_
    have hth := third_len i (by omega)
    refine r_itemStr (fits_small (by omega) (by omega)) (by rw [hth]; omega) (by rw [hth]; omega) fun t13 => ?_
    refine r_iaddS (by rw [item_len (by rw [hth]; omega) (by rw [hth]; omega), Str.length_append, Str.length_append, hL, sizeLine_eq, one_len, one_len]; omega) fun t14 => ?_
    refine r_store rfl rfl rfl ?_
    with_reducible refine leafN (by assumption) ?_
    with_reducible refine r_nil ?_
    exact TurnF.next l' (.refl _) ⟨rfl, by walk_at "look", t14, look_self.trans rfl⟩
  · rintro E'' m' l' ⟨rfl, hc, ts2, hsg⟩
    with_reducible refine r_nil ?_
    with_reducible refine leafN (by assumption) ?_
    with_reducible refine r_consQ fun QQ hQQ => ?_
    with_reducible refine r_Ret ?_
    (refine' r_local rfl rfl rfl ?hv ?_; (case hv => walk_at "look"))
    with_reducible refine leafR (by assumption) ?_
    exact ⟨l', .refl _, h _⟩
end
end FL
namespace G0
open F1
section
variable {C : Cx} {m : Loc} {led : Led} {x dx : Addr} {o : Obj} {v : Value}
abbrev nodeO (dx : Addr) (a b c : Value) : Obj := insO 76 dx #[some a, some b, some c]
theorem r_setN0 {pre post : Led} {sl : Array (Option Value)} {Q : Unit → Loc → Led → Prop} (e : led = pre ++ (x, insO 76 dx sl) :: post) (hdx : Has C led dx o) (h : Q () m (pre ++ (x, insO 76 dx ((sl ++ Array.replicate (1 - sl.size) none).setIfInBounds 0 (some v))) :: post)) :
    T C m led (setAttr (.ref x) "node" v) Q := by
  refine' r_setSlot e hdx ?hs ?hp ?ht ?hT ?hi ?hz h
  walk_at "slotK"
theorem r_setN1 {pre post : Led} {sl : Array (Option Value)} {Q : Unit → Loc → Led → Prop} (e : led = pre ++ (x, insO 76 dx sl) :: post) (hdx : Has C led dx o) (h : Q () m (pre ++ (x, insO 76 dx ((sl ++ Array.replicate (2 - sl.size) none).setIfInBounds 1 (some v))) :: post)) :
    T C m led (setAttr (.ref x) "npredecessors" v) Q := by
  refine' r_setSlot e hdx ?hs ?hp ?ht ?hT ?hi ?hz h
  walk_at "slotK"
theorem r_setN2 {pre post : Led} {sl : Array (Option Value)} {Q : Unit → Loc → Led → Prop} (e : led = pre ++ (x, insO 76 dx sl) :: post) (hdx : Has C led dx o) (h : Q () m (pre ++ (x, insO 76 dx ((sl ++ Array.replicate (3 - sl.size) none).setIfInBounds 2 (some v))) :: post)) :
    T C m led (setAttr (.ref x) "successors" v) Q := by
  refine' r_setSlot e hdx ?hs ?hp ?ht ?hT ?hi ?hz h
  walk_at "slotK"
local macro_rules | `(tactic| walk_at "getK") => `(tactic| ((case hg => k_is); (case hc => k_is); (case ha => k_is); (case hn => k_is); (case ht => k_is); (case hp => k_is)))
theorem r_getN0 {expr : Bool} {a b c : Value} {Q : Value → Loc → Led → Prop} (hx : Has C led x (nodeO dx a b c)) (hdx : Has C led dx o) (hh : handedIn a = true) (h : Q a m led) : T C m led (getAttr (.ref x) "node" expr) Q := by
  refine' r_getSlot (i := 0) hx hdx ?hg ?hc ?ha ?hn ?ht ?hp rfl hh h
  walk_at "getK"
theorem r_getN1 {expr : Bool} {a b c : Value} {Q : Value → Loc → Led → Prop} (hx : Has C led x (nodeO dx a b c)) (hdx : Has C led dx o) (hh : handedIn b = true) (h : Q b m led) : T C m led (getAttr (.ref x) "npredecessors" expr) Q := by
  refine' r_getSlot (i := 1) hx hdx ?hg ?hc ?ha ?hn ?ht ?hp rfl hh h
  walk_at "getK"
theorem r_getN2 {expr : Bool} {a b c : Value} {Q : Value → Loc → Led → Prop} (hx : Has C led x (nodeO dx a b c)) (hdx : Has C led dx o) (hh : handedIn c = true) (h : Q c m led) : T C m led (getAttr (.ref x) "successors" expr) Q := by
  refine' r_getSlot (i := 2) hx hdx ?hg ?hc ?ha ?hn ?ht ?hp rfl hh h
  walk_at "getK"
end
end G0
namespace G1
open F1
section
variable {C : Cx} {m : Loc} {led : Led} {Q : Value → Loc → Led → Prop}
theorem nodeinfo_spec {v : Value} (R : Room C 4) (h : ∀ x dx l t, Q (.ref x) m ((l, listO [] 0) :: (x, insO 76 dx #[some v, some (.int 0 t), some (.ref l)]) :: (dx, dictOf [] 0) :: led)) : T C m led (call (.ref 76) [v]) Q := by
  refine' r_callCls (k := 2) ?R ?hm ?hi ?hf ?ho ?hcd ?hco ?hgen ?hk fun x dx => ⟨[("self", .ref x), ("node", v)], ?_, ?_, fun A' E' β' L' R' up => ?_⟩
  walk_at "enterK"
  · rfl
  · rfl
  show T _ _ ((x, insO 76 dx #[]) :: (dx, dictOf [] 0) :: led) _ _
  with_reducible refine r_consQ fun QQ hQQ => ?_
  refine r_AssignAttr ?_
  refine r_local rfl rfl rfl rfl ?_
  refine r_local rfl rfl rfl rfl ?_
  refine' r_setSlot (pre := []) rfl ?hd ?hs ?hp ?ht ?hT ?hi ?hz ?_
  (case hd => exact Has.tail Has.head)
  walk_at "slotK"
  with_reducible refine leafN (by assumption) ?_
  with_reducible refine r_consQ fun QQ hQQ => ?_
  refine r_AssignAttr ?_
  with_reducible refine r_int fun zt => ?_
  refine r_local rfl rfl rfl rfl ?_
  refine' r_setSlot (pre := []) rfl ?hd ?hs ?hp ?ht ?hT ?hi ?hz ?_
  (case hd => exact Has.tail Has.head)
  walk_at "slotK"
  with_reducible refine leafN (by assumption) ?_
  with_reducible refine r_consQ fun QQ hQQ => ?_
  refine r_AssignAttr ?_
  with_reducible refine r_List ?_
  with_reducible refine r_argNil ?_
  refine r_newList (Nat.le_of_ble_eq_true rfl) ?_; intro za1
  refine r_local rfl rfl rfl rfl ?_
  refine' r_setSlot (pre := [_]) rfl ?hd ?hs ?hp ?ht ?hT ?hi ?hz ?_
  (case hd => exact Has.tail (Has.tail Has.head))
  walk_at "slotK"
  with_reducible refine leafN (by assumption) ?_
  with_reducible refine r_nil ?_
  exact ⟨rfl, _, .refl _, h _ _ _ _⟩
end
end G1
namespace G2
open F1 G0 G1
section
variable {C : Cx} {m : Loc} {led : Led} {x dx : Addr} {o : Obj} {v : Value} {fs : List (Str × Value)}
theorem r_getD {expr : Bool} {Q : Value → Loc → Led → Prop} (hx : Has C led x (insO 173 dx #[])) (hdx : Has C led dx o) (hf : FieldsO fs o) (hl : (fs.find? fun p => decide (p.1 = Str.ofString "_node2info")).map (·.2) = some v) (hv : handedIn v = true) (h : Q v m led) : T C m led (getAttr (.ref x) "_node2info" expr) Q := by
  refine' r_getAttr hx hdx hf ?hg ?hh ?ha ?hn hl hv h
  (case hg => k_is)
  (case hh => k_is)
  (case ha => k_is)
  (case hn => k_is)
theorem r_setD {pre post : Led} {Q : Unit → Loc → Led → Prop} (hx : Has C led x (insO 173 dx #[])) (e : led = pre ++ (dx, o) :: post) (hf : FieldsO fs o) (hz : fs.length ≤ 100) (h : ∀ o', FieldsO (putF "_node2info" v fs) o' → Q () m (pre ++ (dx, o') :: post)) : T C m led (setAttr (.ref x) "_node2info" v) Q := by
  refine' r_setAttr hx e hf ?hs ?hp ?ht ?hh hz h
  (case hs => k_is)
  (case hp => k_is)
  (case ht => k_is)
  (case hh => k_is)
theorem r_getR {expr : Bool} {Q : Value → Loc → Led → Prop} (hx : Has C led x (insO 173 dx #[])) (hdx : Has C led dx o) (hf : FieldsO fs o) (hl : (fs.find? fun p => decide (p.1 = Str.ofString "_ready_nodes")).map (·.2) = some v) (hv : handedIn v = true) (h : Q v m led) : T C m led (getAttr (.ref x) "_ready_nodes" expr) Q := by
  refine' r_getAttr hx hdx hf ?hg ?hh ?ha ?hn hl hv h
  (case hg => k_is)
  (case hh => k_is)
  (case ha => k_is)
  (case hn => k_is)
theorem r_setR {pre post : Led} {Q : Unit → Loc → Led → Prop} (hx : Has C led x (insO 173 dx #[])) (e : led = pre ++ (dx, o) :: post) (hf : FieldsO fs o) (hz : fs.length ≤ 100) (h : ∀ o', FieldsO (putF "_ready_nodes" v fs) o' → Q () m (pre ++ (dx, o') :: post)) : T C m led (setAttr (.ref x) "_ready_nodes" v) Q := by
  refine' r_setAttr hx e hf ?hs ?hp ?ht ?hh hz h
  (case hs => k_is)
  (case hp => k_is)
  (case ht => k_is)
  (case hh => k_is)
theorem r_getP {expr : Bool} {Q : Value → Loc → Led → Prop} (hx : Has C led x (insO 173 dx #[])) (hdx : Has C led dx o) (hf : FieldsO fs o) (hl : (fs.find? fun p => decide (p.1 = Str.ofString "_npassedout")).map (·.2) = some v) (hv : handedIn v = true) (h : Q v m led) : T C m led (getAttr (.ref x) "_npassedout" expr) Q := by
  refine' r_getAttr hx hdx hf ?hg ?hh ?ha ?hn hl hv h
  (case hg => k_is)
  (case hh => k_is)
  (case ha => k_is)
  (case hn => k_is)
theorem r_setP {pre post : Led} {Q : Unit → Loc → Led → Prop} (hx : Has C led x (insO 173 dx #[])) (e : led = pre ++ (dx, o) :: post) (hf : FieldsO fs o) (hz : fs.length ≤ 100) (h : ∀ o', FieldsO (putF "_npassedout" v fs) o' → Q () m (pre ++ (dx, o') :: post)) : T C m led (setAttr (.ref x) "_npassedout" v) Q := by
  refine' r_setAttr hx e hf ?hs ?hp ?ht ?hh hz h
  (case hs => k_is)
  (case hp => k_is)
  (case ht => k_is)
  (case hh => k_is)
theorem r_getF {expr : Bool} {Q : Value → Loc → Led → Prop} (hx : Has C led x (insO 173 dx #[])) (hdx : Has C led dx o) (hf : FieldsO fs o) (hl : (fs.find? fun p => decide (p.1 = Str.ofString "_nfinished")).map (·.2) = some v) (hv : handedIn v = true) (h : Q v m led) : T C m led (getAttr (.ref x) "_nfinished" expr) Q := by
  refine' r_getAttr hx hdx hf ?hg ?hh ?ha ?hn hl hv h
  (case hg => k_is)
  (case hh => k_is)
  (case ha => k_is)
  (case hn => k_is)
theorem r_setF {pre post : Led} {Q : Unit → Loc → Led → Prop} (hx : Has C led x (insO 173 dx #[])) (e : led = pre ++ (dx, o) :: post) (hf : FieldsO fs o) (hz : fs.length ≤ 100) (h : ∀ o', FieldsO (putF "_nfinished" v fs) o' → Q () m (pre ++ (dx, o') :: post)) : T C m led (setAttr (.ref x) "_nfinished" v) Q := by
  refine' r_setAttr hx e hf ?hs ?hp ?ht ?hh hz h
  (case hs => k_is)
  (case hp => k_is)
  (case ht => k_is)
  (case hh => k_is)
theorem r_gmGn {pl : Sem Bool} {Q : Value × List Value → Loc → Led → Prop} (hx : Has C led x (insO 173 dx #[])) (hdx : Has C led dx o) (hf : FieldsO fs o) (hl : (fs.find? fun p => decide (p.1 = Str.ofString "_get_nodeinfo")) = none) (h : Q (.ref 116, [.ref x]) m led) : T C m led (getMethod (.ref x) "_get_nodeinfo" pl) Q := by
  refine' r_gmInst hx hdx hf ?hg ?hfn ?ht hl h
  (case hg => k_is)
  (case hfn => k_is)
  (case ht => k_is)
theorem r_gmAdd {pl : Sem Bool} {Q : Value × List Value → Loc → Led → Prop} (hx : Has C led x (insO 173 dx #[])) (hdx : Has C led dx o) (hf : FieldsO fs o) (hl : (fs.find? fun p => decide (p.1 = Str.ofString "add")) = none) (h : Q (.ref 123, [.ref x]) m led) : T C m led (getMethod (.ref x) "add" pl) Q := by
  refine' r_gmInst hx hdx hf ?hg ?hfn ?ht hl h
  (case hg => k_is)
  (case hfn => k_is)
  (case ht => k_is)
theorem r_gmPrep {pl : Sem Bool} {Q : Value × List Value → Loc → Led → Prop} (hx : Has C led x (insO 173 dx #[])) (hdx : Has C led dx o) (hf : FieldsO fs o) (hl : (fs.find? fun p => decide (p.1 = Str.ofString "prepare")) = none) (h : Q (.ref 128, [.ref x]) m led) : T C m led (getMethod (.ref x) "prepare" pl) Q := by
  refine' r_gmInst hx hdx hf ?hg ?hfn ?ht hl h
  (case hg => k_is)
  (case hfn => k_is)
  (case ht => k_is)
theorem r_gmReady {pl : Sem Bool} {Q : Value × List Value → Loc → Led → Prop} (hx : Has C led x (insO 173 dx #[])) (hdx : Has C led dx o) (hf : FieldsO fs o) (hl : (fs.find? fun p => decide (p.1 = Str.ofString "get_ready")) = none) (h : Q (.ref 135, [.ref x]) m led) : T C m led (getMethod (.ref x) "get_ready" pl) Q := by
  refine' r_gmInst hx hdx hf ?hg ?hfn ?ht hl h
  (case hg => k_is)
  (case hfn => k_is)
  (case ht => k_is)
theorem r_gmAct {pl : Sem Bool} {Q : Value × List Value → Loc → Led → Prop} (hx : Has C led x (insO 173 dx #[])) (hdx : Has C led dx o) (hf : FieldsO fs o) (hl : (fs.find? fun p => decide (p.1 = Str.ofString "is_active")) = none) (h : Q (.ref 142, [.ref x]) m led) : T C m led (getMethod (.ref x) "is_active" pl) Q := by
  refine' r_gmInst hx hdx hf ?hg ?hfn ?ht hl h
  (case hg => k_is)
  (case hfn => k_is)
  (case ht => k_is)
theorem r_gmDone {pl : Sem Bool} {Q : Value × List Value → Loc → Led → Prop} (hx : Has C led x (insO 173 dx #[])) (hdx : Has C led dx o) (hf : FieldsO fs o) (hl : (fs.find? fun p => decide (p.1 = Str.ofString "done")) = none) (h : Q (.ref 156, [.ref x]) m led) : T C m led (getMethod (.ref x) "done" pl) Q := by
  refine' r_gmInst hx hdx hf ?hg ?hfn ?ht hl h
  (case hg => k_is)
  (case hfn => k_is)
  (case ht => k_is)
theorem r_gmCyc {pl : Sem Bool} {Q : Value × List Value → Loc → Led → Prop} (hx : Has C led x (insO 173 dx #[])) (hdx : Has C led dx o) (hf : FieldsO fs o) (hl : (fs.find? fun p => decide (p.1 = Str.ofString "_find_cycle")) = none) (h : Q (.ref 163, [.ref x]) m led) : T C m led (getMethod (.ref x) "_find_cycle" pl) Q := by
  refine' r_gmInst hx hdx hf ?hg ?hfn ?ht hl h
  (case hg => k_is)
  (case hfn => k_is)
  (case ht => k_is)
end
end G2
namespace G3
open F1 G0 G1 G2
structure Nd where
  key : Str
  a : Addr
  dx : Addr
  l : Addr
  t : Tok
  np : Int
  npt : Tok
  sv : List Value
  sc : Nat
abbrev Nd.ob (n : Nd) : Obj := nodeO n.dx (.str n.key n.t) (.int n.np n.npt) (.ref n.l)
abbrev Nd.led (n : Nd) : Led := [(n.l, listO n.sv n.sc), (n.a, n.ob), (n.dx, dictOf [] 0)]
def nds (ns : List Nd) : Led := ns.flatMap Nd.led
theorem nds_nil : nds [] = [] := rfl
theorem nds_cons (n : Nd) (r : List Nd) : nds (n :: r) = (n.l, listO n.sv n.sc) :: (n.a, n.ob) :: (n.dx, dictOf [] 0) :: nds r := rfl
theorem nds_app (p q : List Nd) : nds (p ++ q) = nds p ++ nds q := by simp [nds]
abbrev kvsOf (ns : List Nd) : List (Str × Value) := ns.map fun n => (n.key, .ref n.a)
abbrev keysOf (ns : List Nd) : List Str := ns.map (·.key)
abbrev SL (x dx d : Addr) (ox od : Obj) (ns : List Nd) : Led := (x, insO 173 dx #[]) :: (dx, ox) :: (d, od) :: nds ns
theorem mem_nds {ns : List Nd} {n : Nd} (h : n ∈ ns) : (n.l, listO n.sv n.sc) ∈ nds ns ∧ (n.a, n.ob) ∈ nds ns ∧ (n.dx, dictOf [] 0) ∈ nds ns := by
  unfold nds
  refine ⟨List.mem_flatMap.mpr ⟨n, h, ?_⟩, List.mem_flatMap.mpr ⟨n, h, ?_⟩, List.mem_flatMap.mpr ⟨n, h, ?_⟩⟩ <;> simp [Nd.led]
theorem valueAt_kvs {ns : List Nd} {n : Nd} (hn : (keysOf ns).Nodup) (h : n ∈ ns) : valueAt (kvsOf ns) n.key = some (.ref n.a) := by
  induction ns with
  | nil => cases h
  | cons a r ih =>
    have hn' : a.key ∉ keysOf r ∧ (keysOf r).Nodup := by simpa using hn
    unfold valueAt
    rw [show kvsOf (a :: r) = (a.key, .ref a.a) :: kvsOf r from rfl, List.find?_cons]
    rcases List.mem_cons.mp h with rfl | h
    · simp
    · have hne : a.key ≠ n.key := fun e => hn'.1 (by rw [e]; exact List.mem_map_of_mem h)
      simp only [decide_eq_false hne]
      exact ih hn'.2 h
theorem valueAt_none {ns : List Nd} {k : Str} (h : k ∉ keysOf ns) : valueAt (kvsOf ns) k = none := by
  induction ns with
  | nil => rfl
  | cons a r ih =>
    have hne : a.key ≠ k := fun e => h (by simp [e])
    unfold valueAt
    rw [show kvsOf (a :: r) = (a.key, .ref a.a) :: kvsOf r from rfl, List.find?_cons]
    simp only [decide_eq_false hne]
    exact ih fun e => h (by simp only [List.map_cons, List.mem_cons]; exact .inr e)
theorem stored_new {ns : List Nd} {k : Str} {v : Value} (h : k ∉ keysOf ns) : stored (kvsOf ns) k v = kvsOf ns ++ [(k, v)] := by
  unfold stored
  rw [if_neg]
  intro hany
  obtain ⟨p, hp, he⟩ := List.any_eq_true.mp hany
  obtain ⟨n, hn, rfl⟩ := List.mem_map.mp hp
  simp only [decide_eq_true_eq] at he
  exact h (by rw [← he]; exact List.mem_map_of_mem hn)
section
variable {C : Cx} {m : Loc} {pre post : Led} {x dx d : Addr} {ox od : Obj} {ns : List Nd} {fs : List (Str × Value)}
theorem hSx : Has C (pre ++ (SL x dx d ox od ns ++ post)) x (insO 173 dx #[]) := .inl (by simp)
theorem hSdx : Has C (pre ++ (SL x dx d ox od ns ++ post)) dx ox := .inl (by simp)
theorem hSd : Has C (pre ++ (SL x dx d ox od ns ++ post)) d od := .inl (by simp)
theorem hNl {n : Nd} (h : n ∈ ns) : Has C (pre ++ (SL x dx d ox od ns ++ post)) n.l (listO n.sv n.sc) := .inl (by have := (mem_nds h).1; simp [this])
theorem hNa {n : Nd} (h : n ∈ ns) : Has C (pre ++ (SL x dx d ox od ns ++ post)) n.a n.ob := .inl (by have := (mem_nds h).2.1; simp [this])
theorem hNdx {n : Nd} (h : n ∈ ns) : Has C (pre ++ (SL x dx d ox od ns ++ post)) n.dx (dictOf [] 0) := .inl (by have := (mem_nds h).2.2; simp [this])
theorem r_setNp {n : Nd} {p q : List Nd} {v : Int} {t : Tok} {Q : Unit → Loc → Led → Prop} (e : ns = p ++ n :: q)
    (h : Q () m (pre ++ (SL x dx d ox od (p ++ { n with np := v, npt := t } :: q) ++ post))) : T C m (pre ++ (SL x dx d ox od ns ++ post)) (setAttr (.ref n.a) "npredecessors" (.int v t)) Q := by
  subst e
  refine r_setN1 (sl := #[some (.str n.key n.t), some (.int n.np n.npt), some (.ref n.l)]) (pre := pre ++ ((x, insO 173 dx #[]) :: (dx, ox) :: (d, od) :: nds p) ++ [(n.l, listO n.sv n.sc)]) (post := (n.dx, dictOf [] 0) :: nds q ++ post) ?_ (hNdx (n := n) (by simp)) ?_
  · simp [SL, nds_app, nds_cons]
  · have e2 : pre ++ (SL x dx d ox od (p ++ { n with np := v, npt := t } :: q) ++ post) = pre ++ ((x, insO 173 dx #[]) :: (dx, ox) :: (d, od) :: nds p) ++ [(n.l, listO n.sv n.sc)] ++ (n.a, nodeO n.dx (.str n.key n.t) (.int v t) (.ref n.l)) :: ((n.dx, dictOf [] 0) :: nds q ++ post) := by
      simp [SL, nds_app, nds_cons]
    rw [e2] at h
    exact h
theorem r_addSucc {n : Nd} {p q : List Nd} {v : Value} {Q : Value → Loc → Led → Prop} (e : ns = p ++ n :: q) (hz : n.sv.length ≤ 1000)
    (h : ∀ c, Q .none m (pre ++ (SL x dx d ox od (p ++ { n with sv := n.sv ++ [v], sc := c } :: q) ++ post))) : T C m (pre ++ (SL x dx d ox od ns ++ post)) (call (.builtin "list.append") [.ref n.l, v]) Q := by
  subst e
  refine r_append (pre := pre ++ ((x, insO 173 dx #[]) :: (dx, ox) :: (d, od) :: nds p)) (vs := n.sv) (n := n.sc) (post := (n.a, n.ob) :: (n.dx, dictOf [] 0) :: nds q ++ post) ?_ (by rw [sizeLine_eq]; omega) fun c => ?_
  · simp [SL, nds_app, nds_cons]
  · have := h c
    have e2 : pre ++ (SL x dx d ox od (p ++ { n with sv := n.sv ++ [v], sc := c } :: q) ++ post) = pre ++ ((x, insO 173 dx #[]) :: (dx, ox) :: (d, od) :: nds p) ++ (n.l, listO (n.sv ++ [v]) c) :: ((n.a, n.ob) :: (n.dx, dictOf [] 0) :: nds q ++ post) := by
      simp [SL, nds_app, nds_cons]
    rw [e2] at this
    exact this
theorem gn_spec {k : Str} {t : Tok} {Q : Value → Loc → Led → Prop} (R : Room C 6) (hf : FieldsO fs ox) (hl : (fs.find? fun p => decide (p.1 = Str.ofString "_node2info")).map (·.2) = some (.ref d)) (hd : od.IsDictOf (strKind PG C.W.w) (kvsOf ns)) (hsys : (d == sysModules) = false) (hnd : (keysOf ns).Nodup) (hz : ns.length ≤ 1000)
    (h : ∀ ns' od' n, n ∈ ns' → n.key = k → od'.IsDictOf (strKind PG C.W.w) (kvsOf ns') → (ns' = ns ∨ (k ∉ keysOf ns ∧ ns' = ns ++ [n] ∧ n.np = 0 ∧ n.sv = [])) → Q (.ref n.a) m (pre ++ (SL x dx d ox od' ns' ++ post))) :
    T C m (pre ++ (SL x dx d ox od ns ++ post)) (call (.ref 116) [.ref x, .str k t]) Q := by
  refine r_postP ?_
  refine' r_callDef (binds := [("self", .ref x), ("node", .str k t)]) (k := 5) ?R ?ho ?hcd ?hbind ?hloc ?hco ?hgen ?hk ?hcell fun A' E' β' L' R' up => ?_
  walk_at "enter"
  with_reducible refine r_consQ fun QQ hQQ => ?_
  refine r_If ?_
  with_reducible refine r_isCmp ?_
  refine r_Named ?_
  refine r_MCall ?_
  refine r_Attr ?_
  refine r_local rfl rfl rfl rfl ?_
  refine r_getD hSx hSdx hf hl rfl ?_
  refine r_gmDict hSd hd PySem.F.slot_dict_get PySem.F.type_dict_get ?_
  refine r_cwB ?_
  refine r_argCons ?_
  refine r_local rfl rfl rfl rfl ?_
  with_reducible refine r_argNil ?_
  refine r_dGet1 hSd hd hsys (strKind_is _ _ _ _) ?_
  by_cases hk : k ∈ keysOf ns
  · obtain ⟨n, hn, rfl⟩ := List.mem_map.mp hk
    rw [valueAt_kvs hnd hn]
    refine r_store rfl rfl rfl ?_
    with_reducible refine r_none ?_
    refine r_is rfl ?_
    with_reducible refine r_tBool ?_
    refine iteB (fun hb => absurd (show false = true from hb) (by decide)) (fun hb => ?_)
    with_reducible refine r_nil ?_
    with_reducible refine leafN (by assumption) ?_
    with_reducible refine r_consQ fun QQ hQQ => ?_
    with_reducible refine r_Ret ?_
    refine r_local rfl rfl rfl rfl ?_
    with_reducible refine leafR (by assumption) ?_
    exact ⟨_, .refl _, _, .refl _, h ns od n hn rfl hd (.inl rfl)⟩
  · rw [valueAt_none hk]
    refine r_store rfl rfl rfl ?_
    with_reducible refine r_none ?_
    refine r_is rfl ?_
    with_reducible refine r_tBool ?_
    refine iteB (fun hb => ?_) (fun hb => absurd hb (by decide))
    with_reducible refine r_consQ fun QQ hQQ => ?_
    refine r_Assign2 ?_
    refine r_Call ?_
    (refine' r_global rfl rfl rfl ?e ?_; (case e => k_is))
    refine' r_cwK ?hf ?_; (case hf => k_is)
    refine r_argCons ?_
    refine r_local rfl rfl rfl rfl ?_
    with_reducible refine r_argNil ?_
    refine nodeinfo_spec (by walk_at "room") fun xx dxx ll tt => ?_
    refine r_asSub ?_
    refine r_Attr ?_
    refine r_local rfl rfl rfl rfl ?_
    refine r_getD (Has.tail (Has.tail (Has.tail hSx))) (Has.tail (Has.tail (Has.tail hSdx))) hf hl rfl ?_
    refine r_local rfl rfl rfl rfl ?_
    refine r_dSetItem (pre := (ll, listO [] 0) :: (xx, insO 76 dxx #[some (.str k t), some (.int 0 tt), some (.ref ll)]) :: (dxx, dictOf [] 0) :: (pre ++ [(x, insO 173 dx #[]), (dx, ox)])) (post := nds ns ++ post) (by simp) hd (strKind_is _ _ _ _) (by rw [sizeLine_eq]; simp; omega) fun o' ho' => ?_
    refine r_asName ?_
    refine r_store rfl rfl rfl ?_
    with_reducible refine leafN (by assumption) ?_
    with_reducible refine r_nil ?_
    with_reducible refine leafN (by assumption) ?_
    with_reducible refine r_consQ fun QQ hQQ => ?_
    with_reducible refine r_Ret ?_
    refine r_local rfl rfl rfl rfl ?_
    with_reducible refine leafR (by assumption) ?_
    rw [stored_new hk] at ho'
    have key := h (ns ++ [⟨k, xx, dxx, ll, t, 0, tt, [], 0⟩]) o' ⟨k, xx, dxx, ll, t, 0, tt, [], 0⟩ (by simp) rfl (by simpa using ho') (.inr ⟨hk, rfl, rfl, rfl⟩)
    refine ⟨_, .refl _, _, ?_, key⟩
    have e1 : pre ++ (SL x dx d ox o' (ns ++ [⟨k, xx, dxx, ll, t, 0, tt, [], 0⟩]) ++ post) = (pre ++ ((x, insO 173 dx #[]) :: (dx, ox) :: (d, o') :: nds ns)) ++ ([(ll, listO [] 0), (xx, insO 76 dxx #[some (.str k t), some (.int 0 tt), some (.ref ll)]), (dxx, dictOf [] 0)] ++ post) := by
      simp [SL, nds_app, nds_cons, nds_nil]
    rw [e1]
    refine (List.perm_append_comm_assoc _ _ _).trans ?_
    simp
end
end G3
namespace G4
open F1 G0 G1 G2 G3
section
variable {C : Cx} {m : Loc} {led : Led} {x dx : Addr} {o : Obj} {fs : List (Str × Value)}
theorem r_gaAdd {expr : Bool} {Q : Value → Loc → Led → Prop} (hx : Has C led x (insO 173 dx #[])) (hdx : Has C led dx o) (hf : FieldsO fs o) (hl : (fs.find? fun p => decide (p.1 = Str.ofString "add")) = none) (h : ∀ q, Q (.ref q) m ((q, methodObj (.ref 123) (.ref x)) :: led)) : T C m led (getAttr (.ref x) "add" expr) Q := by
  refine' r_getMeth hx hdx hf ?hg ?hh ?ha ?hn ?ht ?hty ?hc hl h
  (case hg => k_is)
  (case hh => k_is)
  (case ha => k_is)
  (case hn => k_is)
  (case ht => k_is)
  (case hty => k_is)
  (case hc => decide)
theorem r_gaDone {expr : Bool} {Q : Value → Loc → Led → Prop} (hx : Has C led x (insO 173 dx #[])) (hdx : Has C led dx o) (hf : FieldsO fs o) (hl : (fs.find? fun p => decide (p.1 = Str.ofString "done")) = none) (h : ∀ q, Q (.ref q) m ((q, methodObj (.ref 156) (.ref x)) :: led)) : T C m led (getAttr (.ref x) "done" expr) Q := by
  refine' r_getMeth hx hdx hf ?hg ?hh ?ha ?hn ?ht ?hty ?hc hl h
  (case hg => k_is)
  (case hh => k_is)
  (case ha => k_is)
  (case hn => k_is)
  (case ht => k_is)
  (case hty => k_is)
  (case hc => decide)
end
structure Bd (w : World) (ns : List Nd) (od : Obj) (NP : Str → Int) (SU : Str → List Str) : Prop where
  nd : (keysOf ns).Nodup
  dk : od.IsDictOf (strKind PG w) (kvsOf ns)
  np : ∀ n ∈ ns, n.np = NP n.key
  su : ∀ n ∈ ns, StrsAre n.sv (SU n.key)
  off : ∀ k, k ∉ keysOf ns → NP k = 0 ∧ SU k = []
section
variable {w : World} {ns p q : List Nd} {od od' : Obj} {NP NP' : Str → Int} {SU SU' : Str → List Str} {n n' : Nd}
theorem Bd.upd (h : Bd w (p ++ n :: q) od NP SU) (hk : n'.key = n.key) (ha : n'.a = n.a) (h1 : n'.np = NP' n.key) (h2 : StrsAre n'.sv (SU' n.key)) (h3 : ∀ j, j ≠ n.key → NP' j = NP j ∧ SU' j = SU j) : Bd w (p ++ n' :: q) od NP' SU' := by
  have ek : keysOf (p ++ n' :: q) = keysOf (p ++ n :: q) := by simp [hk]
  have ev : kvsOf (p ++ n' :: q) = kvsOf (p ++ n :: q) := by simp [hk, ha]
  have hnd := h.nd
  have hne : ∀ x, x ∈ p ∨ x ∈ q → x.key ≠ n.key := by
    intro x hx e
    have h0 := hnd
    simp only [keysOf, List.map_append, List.map_cons] at h0
    rw [List.nodup_append] at h0
    obtain ⟨_, h4, h5⟩ := h0
    rcases hx with hx | hx
    · exact h5 x.key (List.mem_map_of_mem hx) n.key List.mem_cons_self e
    · exact (List.nodup_cons.mp h4).1 (by rw [← e]; exact List.mem_map_of_mem hx)
  refine ⟨by rw [ek]; exact h.nd, by rw [ev]; exact h.dk, fun x hx => ?_, fun x hx => ?_, fun k hk' => ?_⟩
  · rcases List.mem_append.mp hx with hx | hx
    · rw [(h3 _ (hne x (.inl hx))).1]; exact h.np x (by simp [hx])
    · rcases List.mem_cons.mp hx with rfl | hx
      · rw [hk]; exact h1
      · rw [(h3 _ (hne x (.inr hx))).1]; exact h.np x (by simp [hx])
  · rcases List.mem_append.mp hx with hx | hx
    · rw [(h3 _ (hne x (.inl hx))).2]; exact h.su x (by simp [hx])
    · rcases List.mem_cons.mp hx with rfl | hx
      · rw [hk]; exact h2
      · rw [(h3 _ (hne x (.inr hx))).2]; exact h.su x (by simp [hx])
  · rw [ek] at hk'
    have : k ≠ n.key := fun e => hk' (by rw [e]; simp)
    rw [(h3 k this).1, (h3 k this).2]
    exact h.off k hk'
theorem Bd.more (h : Bd w ns od NP SU) (hn : n.key ∉ keysOf ns) (h0 : n.np = 0) (h1 : n.sv = []) (hd : od'.IsDictOf (strKind PG w) (kvsOf (ns ++ [n]))) : Bd w (ns ++ [n]) od' NP SU := by
  refine ⟨?_, hd, fun x hx => ?_, fun x hx => ?_, fun k hk => h.off k fun e => hk (by simp only [keysOf, List.map_append, List.mem_append]; exact .inl e)⟩
  · simp only [keysOf, List.map_append, List.map_cons, List.map_nil]
    rw [List.nodup_append]
    exact ⟨h.nd, by simp, fun a ha b hb e => by simp only [List.mem_singleton] at hb; exact hn (by rw [← hb, ← e]; exact ha)⟩
  · rcases List.mem_append.mp hx with hx | hx
    · exact h.np x hx
    · simp only [List.mem_singleton] at hx
      subst hx
      rw [h0, (h.off _ hn).1]
  · rcases List.mem_append.mp hx with hx | hx
    · exact h.su x hx
    · simp only [List.mem_singleton] at hx
      subst hx
      rw [h1, (h.off _ hn).2]
      exact .nil
theorem Bd.same (h : Bd w ns od NP SU) (hd : od'.IsDictOf (strKind PG w) (kvsOf ns)) : Bd w ns od' NP SU := ⟨h.nd, hd, h.np, h.su, h.off⟩
end
theorem Bd.found {w : World} {ns ns' : List Nd} {od od' : Obj} {NP : Str → Int} {SU : Str → List Str} {n : Nd} {k : Str} (h : Bd w ns od NP SU) (hm : n ∈ ns') (hk : n.key = k) (hd : od'.IsDictOf (strKind PG w) (kvsOf ns'))
    (hc : ns' = ns ∨ (k ∉ keysOf ns ∧ ns' = ns ++ [n] ∧ n.np = 0 ∧ n.sv = [])) : Bd w ns' od' NP SU ∧ (∀ j, j ∈ keysOf ns' ↔ j ∈ keysOf ns ∨ j = k) ∧ ns'.length ≤ ns.length + 1 := by
  rcases hc with rfl | ⟨h1, rfl, h2, h3⟩
  · refine ⟨h.same hd, fun j => ⟨.inl, fun e => e.elim id fun e => ?_⟩, by omega⟩
    rw [e, ← hk]; exact List.mem_map_of_mem hm
  · subst hk
    refine ⟨h.more h1 h2 h3 hd, fun j => by simp [keysOf], by simp⟩
section
variable {C : Cx} {m : Loc} {pre post led : Led} {x dx d : Addr} {ox od : Obj} {ns : List Nd} {fs : List (Str × Value)} {NP : Str → Int} {SU : Str → List Str}
abbrev addNP (NP : Str → Int) (k : Str) (c : Int) : Str → Int := fun j => if j = k then NP j + c else NP j
abbrev addSU (SU : Str → List Str) (k : Str) (ps : List Str) : Str → List Str := fun j => if j ∈ ps then SU j ++ [k] else SU j
theorem add_spec {k : Str} {t : Tok} {vs : List Value} {ps : List Str} {Q : Value → Loc → Led → Prop} (R : Room C 8) (hf : FieldsO fs ox) (hl : (fs.find? fun p => decide (p.1 = Str.ofString "_node2info")).map (·.2) = some (.ref d))
    (hr : (fs.find? fun p => decide (p.1 = Str.ofString "_ready_nodes")).map (·.2) = some .none) (hm : (fs.find? fun p => decide (p.1 = Str.ofString "_get_nodeinfo")) = none) (hsys : (d == sysModules) = false)
    (B : Bd C.W.w ns od NP SU) (hv : StrsAre vs ps) (hps : ps.Nodup) (hz : ns.length + ps.length ≤ 500) (hsz : ∀ j, (SU j).length ≤ 500)
    (h : ∀ ns' od', Bd C.W.w ns' od' (addNP NP k ps.length) (addSU SU k ps) → (∀ j, j ∈ keysOf ns' ↔ j ∈ keysOf ns ∨ j = k ∨ j ∈ ps) → ns'.length ≤ ns.length + 1 + ps.length → Q .none m (pre ++ (SL x dx d ox od' ns' ++ post))) :
    Tc C m (pre ++ (SL x dx d ox od ns ++ post)) (.call (.ref 123) ⟨.ref x :: .str k t :: vs, []⟩) Q := by
  have hlen := strsAre_len hv
  refine' r_callDefSc (k := 7) ?R ?ho ?hcd ?hco ?hgen ?hk fun A1 => ?_
  (case R => walk_at "room")
  (case ho => k_is)
  (case hcd => k_is)
  (case hco => exact rfl)
  (case hgen => exact rfl)
  (case hk => exact rfl)
  refine r_bindVar2 rfl rfl rfl (by rw [sizeLine_eq]; omega) fun tu => ⟨locs rfl, fun A' E' β' L' R' up => ?_⟩
  show T _ _ (((tu, tupO vs) :: pre) ++ (SL x dx d ox od ns ++ post)) _ _
  with_reducible refine r_consQ fun QQ hQQ => ?_
  refine r_If ?_
  with_reducible refine r_isCmp ?_
  refine r_Attr ?_
  refine r_local rfl rfl rfl rfl ?_
  refine r_getR hSx hSdx hf hr rfl ?_
  with_reducible refine r_none ?_
  refine r_isnt rfl ?_
  with_reducible refine r_tBool ?_
  refine iteB (fun hb => absurd (show false = true from hb) (by decide)) (fun hb => ?_)
  with_reducible refine r_nil ?_
  with_reducible refine leafN (by assumption) ?_
  with_reducible refine r_consQ fun QQ hQQ => ?_
  refine r_Assign ?_
  refine r_MCall ?_
  refine r_local rfl rfl rfl rfl ?_
  refine r_gmGn hSx hSdx hf hm ?_
  refine' r_cwK ?hf ?_; (case hf => k_is)
  refine r_argCons ?_
  refine r_local rfl rfl rfl rfl ?_
  with_reducible refine r_argNil ?_
  refine gn_spec (pre := (tu, tupO vs) :: pre) (by walk_at "room") hf hl B.dk hsys B.nd (by omega) fun ns1 od1 n1 hn1 hk1 hd1 hc1 => ?_
  obtain ⟨B1, hk1', hl1⟩ := B.found hn1 hk1 hd1 hc1
  refine r_store rfl rfl rfl ?_
  with_reducible refine leafN (by assumption) ?_
  with_reducible refine r_consQ fun QQ hQQ => ?_
  refine r_AugAttr ?_
  refine r_local rfl rfl rfl rfl ?_
  refine r_getN1 (hNa hn1) (hNdx hn1) rfl ?_
  refine r_Call ?_
  (refine' r_builtin rfl rfl rfl rfl ?e ?hv ?hn ?_; (case e => k_is); (case hv => boot_by_name); (case hn => decide))
  refine r_cwB ?_
  refine r_argCons ?_
  refine r_local rfl rfl rfl rfl ?_
  with_reducible refine r_argNil ?_
  refine r_lenTup (vs := vs) Has.head (by omega) fun t2 => ?_
  refine r_iaddI fun t3 => ?_
  obtain ⟨p1, q1, e1⟩ := List.append_of_mem hn1
  refine r_setNp (pre := (tu, tupO vs) :: pre) e1 ?_
  subst e1
  have B2 := B1.upd (n' := { n1 with np := n1.np + vs.length, npt := t3 }) (NP' := addNP NP k ps.length) (SU' := SU) rfl rfl (by rw [hk1]; simp only [addNP, if_true]; rw [B1.np n1 hn1, hk1, hlen]) (B1.su n1 hn1) (fun j hj => ⟨by rw [hk1] at hj; simp [addNP, hj], rfl⟩)
  have hk2 : ∀ j, j ∈ keysOf (p1 ++ { n1 with np := n1.np + vs.length, npt := t3 } :: q1) ↔ j ∈ keysOf ns ∨ j = k := fun j => by rw [← hk1' j]; simp [keysOf]
  have hl2 : (p1 ++ { n1 with np := n1.np + vs.length, npt := t3 } :: q1).length ≤ ns.length + 1 := by simpa using hl1
  generalize (p1 ++ { n1 with np := n1.np + vs.length, npt := t3 } :: q1) = ns2 at B2 hk2 hl2 ⊢
  with_reducible refine leafN (by assumption) ?_
  with_reducible refine r_consQ fun QQ hQQ => ?_
  refine r_ForTup R'.h ?_
  refine r_local rfl rfl rfl rfl ?_
  refine ⟨tu, vs, fun i m' l' => Ex2 fun ns3 od3 => A6 (l' = ((tu, tupO vs) :: pre) ++ (SL x dx d ox od3 ns3 ++ post)) (Bd C.W.w ns3 od3 (addNP NP k ps.length) (addSU SU k (ps.take i))) ((∀ j, j ∈ keysOf ns3 ↔ j ∈ keysOf ns ∨ j = k ∨ j ∈ ps.take i)) (ns3.length ≤ ns.length + 1 + i) (m' "self" = some (.ref x)) (m' "node" = some (.str k t)), rfl, Has.head, ?_, ?_, ?_, ?_⟩
  · rintro i m' l' ⟨ns3, od3, rfl, _⟩; exact Has.head
  · exact ⟨ns2, od1, rfl, by rw [show addSU SU k (ps.take 0) = SU from by funext j; simp [addSU]]; exact B2, by simpa using hk2, hl2, by walk_at "look", by walk_at "look"⟩
  · rintro E3 I o3 i v m' l' hvi ⟨ns3, od3, rfl, B3, hk3, hl3, hm1, hm2⟩
    obtain ⟨y, ty, hy, rfl⟩ := strsAre_get' hv hvi
    have hi : i < ps.length := (List.getElem?_eq_some_iff.mp hy).1
    refine r_store rfl rfl rfl ?_
    with_reducible refine r_consQ fun QQ hQQ => ?_
    refine r_Assign ?_
    refine r_MCall ?_
    (refine' r_local rfl rfl rfl ?hv ?_; (case hv => walk_at "look"))
    refine r_gmGn (Has.tail (hSx (pre := (tu, tupO vs) :: pre))) (Has.tail (hSdx (pre := (tu, tupO vs) :: pre))) hf hm ?_
    refine' r_cwK ?hf ?_; (case hf => k_is)
    refine r_argCons ?_
    refine r_local rfl rfl rfl rfl ?_
    with_reducible refine r_argNil ?_
    refine gn_spec (pre := (I, o3) :: (tu, tupO vs) :: pre) (by walk_at "room") hf hl B3.dk hsys B3.nd (by omega) fun ns4 od4 n4 hn4 hk4 hd4 hc4 => ?_
    obtain ⟨B4, hk4', hl4⟩ := B3.found hn4 hk4 hd4 hc4
    refine r_store rfl rfl rfl ?_
    with_reducible refine leafN (by assumption) ?_
    with_reducible refine r_consQ fun QQ hQQ => ?_
    refine r_Expr ?_
    refine r_MCall ?_
    refine r_Attr ?_
    refine r_local rfl rfl rfl rfl ?_
    refine r_getN2 (hNa hn4) (hNdx hn4) rfl ?_
    refine r_gmAppend (hNl hn4) ?_
    refine r_cwB ?_
    refine r_argCons ?_
    (refine' r_local rfl rfl rfl ?hv ?_; (case hv => walk_at "look"))
    with_reducible refine r_argNil ?_
    obtain ⟨p4, q4, e4⟩ := List.append_of_mem hn4
    have hsv : n4.sv.length ≤ 1000 := by
      have h1 := strsAre_len (B4.su n4 hn4)
      have h2 := hsz n4.key
      have h3 : (addSU SU k (ps.take i) n4.key).length ≤ (SU n4.key).length + 1 := by simp only [addSU]; split <;> simp
      omega
    refine r_addSucc (pre := (I, o3) :: (tu, tupO vs) :: pre) e4 hsv fun c4 => ?_
    subst e4
    have htk : ps.take (i + 1) = ps.take i ++ [y] := by rw [List.take_add_one, hy]; rfl
    have hyn : y ∉ ps.take i := by
      intro hmem
      obtain ⟨j, hj, ej⟩ := List.getElem_of_mem hmem
      rw [List.getElem_take] at ej
      have hji : j < i := by simp at hj; omega
      have : ps[j]'(by omega) = ps[i]'hi := by rw [ej]; exact (List.getElem_eq_iff hi).mpr hy |>.symm
      exact absurd ((List.getElem_inj hps).mp this) (by omega)
    have B5 := B4.upd (n' := { n4 with sv := n4.sv ++ [.str k t], sc := c4 }) (NP' := addNP NP k ps.length) (SU' := addSU SU k (ps.take (i + 1))) rfl rfl (B4.np n4 hn4) (by
      have h1 := B4.su n4 hn4
      rw [hk4] at h1 ⊢
      simp only [addSU, hyn, if_false] at h1
      simp only [addSU, htk, List.mem_append, List.mem_singleton, or_true, if_true]
      exact strsAre_snoc h1) (fun j hj => ⟨rfl, by rw [hk4] at hj; simp [addSU, htk, hj]⟩)
    with_reducible refine leafN (by assumption) ?_
    with_reducible refine r_nil ?_
    refine TurnF.next _ (.refl _) ⟨_, od4, rfl, B5, fun j => ?_, ?_, by walk_at "look", by walk_at "look"⟩
    · rw [show keysOf (p4 ++ { n4 with sv := n4.sv ++ [.str k t], sc := c4 } :: q4) = keysOf (p4 ++ n4 :: q4) by simp [keysOf], hk4' j, hk3 j, htk, List.mem_append, List.mem_singleton]
      constructor
      · rintro ((h1 | h1 | h1) | h1)
        · exact .inl h1
        · exact .inr (.inl h1)
        · exact .inr (.inr (.inl h1))
        · exact .inr (.inr (.inr h1))
      · rintro (h1 | h1 | h1 | h1)
        · exact .inl (.inl h1)
        · exact .inl (.inr (.inl h1))
        · exact .inl (.inr (.inr h1))
        · exact .inr h1
    · simp only [List.length_append, List.length_cons] at hl4 ⊢; omega
  · rintro E3 m' l' ⟨ns3, od3, rfl, B3, hk3, hl3, hm1, hm2⟩
    with_reducible refine r_nil ?_
    with_reducible refine leafN (by assumption) ?_
    with_reducible refine r_nil ?_
    rw [hlen, List.take_length] at B3 hk3
    rw [hlen] at hl3
    exact ⟨_, List.sublist_cons_self _ _, h ns3 od3 B3 hk3 hl3⟩
end
end G4
namespace G5
open F1 G0 G1 G2 G3 G4
abbrev fsOf (d : Addr) (rv : Value) (a b : Int) (t1 t2 : Tok) : List (Str × Value) := [("_node2info", .ref d), ("_ready_nodes", rv), ("_npassedout", .int a t1), ("_nfinished", .int b t2)]
abbrev npAt (M : Str → List Str) (ts : List Str) : Str → Int := fun k => if k ∈ ts then ((M k).length : Int) else 0
abbrev suAt (M : Str → List Str) (ts : List Str) : Str → List Str := fun k => ts.filter fun j => decide (k ∈ M j)
theorem np_step {M : Str → List Str} {ts : List Str} {k : Str} (h : k ∉ ts) : addNP (npAt M ts) k (M k).length = npAt M (ts ++ [k]) := by
  funext j
  by_cases e : j = k
  · subst e; simp [addNP, npAt, h]
  · simp [addNP, npAt, e]
theorem su_step {M : Str → List Str} {ts : List Str} {k : Str} : addSU (suAt M ts) k (M k) = suAt M (ts ++ [k]) := by
  funext j
  by_cases e : j ∈ M k <;> simp [addSU, suAt, e]
section
variable {C : Cx} {m : Loc} {led : Led}
theorem init_spec {md : Addr} {omd : Obj} {mk : List (Str × Value)} {M : Str → List Str} {Q : Value → Loc → Led → Prop} (R : Room C 12) (hmd : Has C led md omd) (hD : omd.IsDictOf (strKind PG C.W.w) mk) (hsys : (md == sysModules) = false)
    (hM : ∀ p ∈ mk, ∃ l vs c, p.2 = .ref l ∧ Has C led l (listO vs c) ∧ StrsAre vs (M p.1)) (hnd : ∀ p ∈ mk, (M p.1).Nodup ∧ (M p.1).length ≤ 20 ∧ ∀ j ∈ M p.1, j ∈ mk.map (·.1)) (hz : mk.length ≤ 20)
    (h : ∀ x dx d ox od ns t1 t2, (d == sysModules) = false → FieldsO (fsOf d .none 0 0 t1 t2) ox → Bd C.W.w ns od (npAt M (mk.map (·.1))) (suAt M (mk.map (·.1))) → (∀ j, j ∈ keysOf ns ↔ j ∈ mk.map (·.1)) → ns.length ≤ 420 → Q (.ref x) m (SL x dx d ox od ns ++ led)) :
    T C m led (call (.ref 173) [.ref md]) Q := by
  refine' r_callClsS (k := 10) ?R ?hm ?hi ?hf ?ho ?hcd ?hco ?hgen ?hk fun x dx A1 E1 => ?_
  walk_at "enterK"
  refine' r_static (a := 102) (o := tupO [.none]) ?hst fun hst => ?_
  (case hst => k_is)
  refine r_bindD2 rfl rfl rfl hst ⟨locs rfl, fun A' E' β' L' R' up => ?_⟩
  show T _ _ ((x, insO 173 dx #[]) :: (dx, dictOf [] 0) :: led) _ _
  with_reducible refine r_consQ fun QQ hQQ => ?_
  refine r_AssignAttr ?_
  refine r_Dict0 fun d hd0 => ?_
  refine r_local rfl rfl rfl rfl ?_
  refine r_setD (pre := [(d, { cls := .type "dict", data := .dict #[] }), (x, insO 173 dx #[])]) (Has.tail Has.head) rfl (fs := []) ⟨[], 0, rfl, .nil⟩ (by decide) fun o1 ho1 => ?_
  with_reducible refine leafN (by assumption) ?_
  with_reducible refine r_consQ fun QQ hQQ => ?_
  refine r_AssignAttr ?_
  with_reducible refine r_none ?_
  refine r_local rfl rfl rfl rfl ?_
  refine r_setR (pre := [(d, { cls := .type "dict", data := .dict #[] }), (x, insO 173 dx #[])]) (Has.tail Has.head) rfl ho1 (Nat.le_of_ble_eq_true rfl) fun o2 ho2 => ?_
  with_reducible refine leafN (by assumption) ?_
  with_reducible refine r_consQ fun QQ hQQ => ?_
  refine r_AssignAttr ?_
  with_reducible refine r_int fun zt => ?_
  refine r_local rfl rfl rfl rfl ?_
  refine r_setP (pre := [(d, { cls := .type "dict", data := .dict #[] }), (x, insO 173 dx #[])]) (Has.tail Has.head) rfl ho2 (Nat.le_of_ble_eq_true rfl) fun o3 ho3 => ?_
  with_reducible refine leafN (by assumption) ?_
  with_reducible refine r_consQ fun QQ hQQ => ?_
  refine r_AssignAttr ?_
  with_reducible refine r_int fun zt => ?_
  refine r_local rfl rfl rfl rfl ?_
  refine r_setF (pre := [(d, { cls := .type "dict", data := .dict #[] }), (x, insO 173 dx #[])]) (Has.tail Has.head) rfl ho3 (Nat.le_of_ble_eq_true rfl) fun o4 ho4 => ?_
  with_reducible refine leafN (by assumption) ?_
  have ho5 : FieldsO (fsOf d .none 0 0 _ _) o4 := ho4
  clear ho1 ho2 ho3 ho4
  refine r_perm (led' := [] ++ (SL x dx d o4 { cls := .type "dict", data := .dict #[] } [] ++ led)) ?_ (by
    show List.Perm ((x, insO 173 dx #[]) :: (dx, o4) :: (d, _) :: led) ((d, _) :: (x, insO 173 dx #[]) :: (dx, o4) :: led)
    exact ((List.Perm.swap _ _ _).cons _).trans (List.Perm.swap _ _ _))
  have B0 : Bd C.W.w [] { cls := .type "dict", data := .dict #[] } (npAt M ((mk.map (·.1)).take 0)) (suAt M ((mk.map (·.1)).take 0)) :=
    ⟨by simp, dictO_new, by simp, by simp, fun k _ => by simp [npAt, suAt]⟩
  with_reducible refine r_consQ fun QQ hQQ => ?_
  refine r_If ?_
  with_reducible refine r_isCmp ?_
  refine r_local rfl rfl rfl rfl ?_
  with_reducible refine r_none ?_
  refine r_isnt rfl ?_
  with_reducible refine r_tBool ?_
  refine iteB (fun hb => ?_) (fun hb => absurd (show true = false from hb) (by decide))
  with_reducible refine r_consQ fun QQ hQQ => ?_
  refine r_For ?_
  refine r_MCall ?_
  refine r_local rfl rfl rfl rfl ?_
  have hH : ∀ {C' : Cx} {l0 : Led} {od1 : Obj} {ns1 : List Nd} {a : Addr} {o : Obj}, C'.W = C.W → Has C led a o → Has C' (l0 ++ (SL x dx d o4 od1 ns1 ++ led)) a o := fun e q => by
    rcases q with q | q
    · exact .inl (by simp [q])
    · exact .inr (by rw [e]; exact q)
  refine r_gmDict (hH (l0 := []) rfl hmd) hD PySem.F.slot_dict_items PySem.F.type_dict_items ?_
  refine r_cwB0 ?_
  refine r_dItems (hH (l0 := []) rfl hmd) hD hsys fun v => ?_
  refine r_iterItems Has.head (hH (l0 := [_]) rfl hmd) hD fun it ep hep => ?_
  refine ⟨fun k m' l' => Ex5 fun i ok ov ns od => A7 (k = mk.length - i) (i ≤ mk.length) (l' = [(it, iiO .none md i mk.length ep ok ov), (v, { cls := .type "dict_items", data := .fields #[.ref md] })] ++ (SL x dx d o4 od ns ++ led)) (Bd C.W.w ns od (npAt M ((mk.map (·.1)).take i)) (suAt M ((mk.map (·.1)).take i))) ((∀ j, j ∈ keysOf ns ↔ j ∈ (mk.map (·.1)).take i ∨ ∃ a ∈ (mk.map (·.1)).take i, j ∈ M a)) (ns.length ≤ 21 * i) (m' "self" = some (.ref x)), mk.length, ?_, ?_⟩
  · exact ⟨0, .none, .none, [], _, rfl, Nat.zero_le _, rfl, B0, by simp, by simp, by walk_at "look"⟩
  rintro E3 k3 m3 l3 ⟨i, ok, ov, ns, od, rfl, hi, rfl, B, hkeys, hlen, hms⟩
  by_cases hlt : i < mk.length
  · obtain ⟨⟨k, vv⟩, hx⟩ : ∃ p, mk[i]? = some p := ⟨_, List.getElem?_eq_getElem hlt⟩
    have hmem : (k, vv) ∈ mk := List.mem_of_getElem? hx
    obtain ⟨lk, vs, c, e2, hlk, hvs⟩ := hM _ hmem
    simp only at e2 hvs
    subst e2
    obtain ⟨hn1, hn2, hn3⟩ := hnd _ hmem
    simp only at hn1 hn2 hn3
    refine r_nextItems (led := (v, { cls := .type "dict_items", data := .fields #[.ref md] }) :: (SL x dx d o4 od ns ++ led)) (hH (l0 := [_]) rfl hmd) hD hep rfl hx fun key a hk => ?_
    obtain ⟨u5, rfl⟩ := Value.isStrOf_shape hk
    refine r_letItems (pre := [(a, tupO [.str k u5, .ref lk])]) ?_
    refine r_asTup ?_
    refine r_unpackTup R'.h Has.head rfl ?_
    refine r_asCons (r_asName ?_)
    refine r_store rfl rfl rfl ?_
    refine r_asCons (r_asName ?_)
    refine r_store rfl rfl rfl ?_
    refine r_asNil ?_
    with_reducible refine r_consQ fun QQ hQQ => ?_
    refine r_Expr ?_
    refine r_SCall ?_
    (refine' r_local rfl rfl rfl ?hv ?_; (case hv => walk_at "look"))
    refine r_gaAdd (hSx (pre := [_, _, _])) (hSdx (pre := [_, _, _])) ho5 rfl fun q => ?_
    refine' r_cwM2 (self := .ref x) (f := 123) ?kf ?_
    (case kf => k_is)
    refine r_argCons ?_
    refine r_local rfl rfl rfl rfl ?_
    refine r_argStar ?_
    refine r_local rfl rfl rfl rfl ?_
    refine ⟨vs, ⟨lk, rfl, .inl ⟨c, hH (l0 := [_, _, _, _]) rfl hlk⟩, by rw [sizeLine_eq, strsAre_len hvs]; omega⟩, ?_⟩
    refine r_argNil ?_
    refine ⟨Has.head, r_callMeth Has.head ?_⟩
    rw [List.append_nil]
    have hki : k = (mk.map (·.1))[i]'(by simpa using hlt) := by
      have := (List.getElem?_eq_some_iff.mp hx).2
      simp [this]
    have htk : (mk.map (·.1)).take (i + 1) = (mk.map (·.1)).take i ++ [k] := by
      rw [List.take_add_one, List.getElem?_map, hx]; rfl
    have hkn : k ∉ (mk.map (·.1)).take i := by
      have hN := isDict_nodup hD
      have h2 : ((mk.map (·.1)).take (i + 1)).Nodup := (List.take_sublist _ _).nodup hN
      rw [htk, List.nodup_append] at h2
      exact fun q => h2.2.2 k q k (by simp) rfl
    refine add_spec (pre := [_, _, _, _]) (by walk_at "room") ho5 rfl rfl rfl hd0 B hvs hn1 (by omega) (fun j => ?_) fun ns' od' B' hk' hl' => ?_
    · have h1 := List.length_filter_le (fun a => decide (j ∈ M a)) ((mk.map (·.1)).take i)
      have h2 := List.length_take_le i (mk.map (·.1))
      show (List.filter _ _).length ≤ 500
      omega
    with_reducible refine leafN (by assumption) ?_
    with_reducible refine r_nil ?_
    rw [np_step hkn, su_step, ← htk] at B'
    refine Turn.next ([(it, iiO .none md (i + 1) mk.length ep (.str k u5) (.ref lk)), (v, { cls := .type "dict_items", data := .fields #[.ref md] })] ++ (SL x dx d o4 od' ns' ++ led)) (mk.length - (i + 1)) ((List.sublist_cons_self _ _).trans (List.sublist_cons_self _ _)) (by omega) ⟨i + 1, _, _, ns', od', rfl, hlt, rfl, B', fun j => ?_, by omega, by walk_at "look"⟩
    rw [hk' j, hkeys j, htk]
    constructor
    · rintro ((h1 | ⟨a1, h1, h2⟩) | h1 | h1)
      · exact .inl (by simp [h1])
      · exact .inr ⟨a1, by simp [h1], h2⟩
      · exact .inl (by simp [h1])
      · exact .inr ⟨k, by simp, h1⟩
    · rintro (h1 | ⟨a1, h1, h2⟩)
      · rcases List.mem_append.mp h1 with h1 | h1
        · exact .inl (.inl h1)
        · exact .inr (.inl (by simpa using h1))
      · rcases List.mem_append.mp h1 with h1 | h1
        · exact .inl (.inr ⟨a1, h1, h2⟩)
        · simp only [List.mem_singleton] at h1
          subst h1
          exact .inr (.inr h2)
  · obtain rfl : i = mk.length := by omega
    refine r_nextItemsEnd (led := (v, { cls := .type "dict_items", data := .fields #[.ref md] }) :: (SL x dx d o4 od ns ++ led)) R'.h (hH (l0 := [_]) rfl hmd) hD hep rfl (List.getElem?_eq_none (Nat.le_refl _)) ?_
    with_reducible refine r_nil ?_
    with_reducible refine leafN (by assumption) ?_
    with_reducible refine r_nil ?_
    with_reducible refine leafN (by assumption) ?_
    with_reducible refine r_nil ?_
    have e0 : (mk.map (·.1)).take mk.length = mk.map (·.1) := List.take_of_length_le (by simp)
    rw [e0] at B hkeys
    refine ⟨rfl, SL x dx d o4 od ns ++ led, List.sublist_cons_self _ _, h x dx d o4 od ns _ _ hd0 ho5 B (fun j => ?_) (by omega)⟩
    rw [hkeys j]
    refine ⟨fun q => q.elim id fun ⟨a1, h1, h2⟩ => ?_, .inl⟩
    obtain ⟨p, hp, rfl⟩ := List.mem_map.mp h1
    exact (hnd p hp).2.2 j h2
end
end G5
namespace G6
open F1 G0 G1 G2 G3 G4 G5
abbrev RL (x dx d r : Addr) (ox od : Obj) (ns : List Nd) (rv : List Value) (rc : Nat) (post : Led) : Led := SL x dx d ox od ns ++ (r, listO rv rc) :: post
theorem mem_key {ns : List Nd} {k : Str} (h : k ∈ keysOf ns) : ∃ n, n ∈ ns ∧ n.key = k := let ⟨n, h1, h2⟩ := List.mem_map.mp h; ⟨n, h1, h2⟩
abbrev outNP (NP : Str → Int) (rs : List Str) : Str → Int := fun j => if j ∈ rs then -1 else NP j
theorem mem_take_succ {ps : List Str} {i : Nat} {y j : Str} (h : ps[i]? = some y) : j ∈ ps.take (i + 1) ↔ j ∈ ps.take i ∨ j = y := by
  rw [List.take_add_one, h]; simp
section
variable {C : Cx} {m : Loc} {pre post : Led} {x dx d r : Addr} {ox od : Obj} {ns : List Nd} {rv : List Value} {rc : Nat} {rs : List Str} {a b : Int} {t1 t2 : Tok} {NP : Str → Int} {SU : Str → List Str}
theorem hRr : Has C (pre ++ (RL x dx d r ox od ns rv rc post)) r (listO rv rc) := .inl (by simp [RL])
theorem ready_spec {Q : Value → Loc → Led → Prop} (R : Room C 4) (hf : FieldsO (fsOf d (.ref r) a b t1 t2) ox) (B : Bd C.W.w ns od NP SU) (hv : StrsAre rv rs) (hsub : ∀ j ∈ rs, j ∈ keysOf ns) (hz : rs.length ≤ 100)
    (h : ∀ tu ns' ox' od' rc' t3, FieldsO (fsOf d (.ref r) (a + rs.length) b t3 t2) ox' → Bd C.W.w ns' od' (outNP NP rs) SU → keysOf ns' = keysOf ns → Q (.ref tu) m ((tu, tupO rv) :: (pre ++ RL x dx d r ox' od' ns' [] rc' post))) :
    T C m (pre ++ RL x dx d r ox od ns rv rc post) (call (.ref 135) [.ref x]) Q := by
  have hlen := strsAre_len hv
  refine r_postP ?_
  refine' r_callDef (binds := [("self", .ref x)]) (k := 3) ?R ?ho ?hcd ?hbind ?hloc ?hco ?hgen ?hk ?hcell fun A' E' β' L' R' up => ?_
  walk_at "enter"
  with_reducible refine r_consQ fun QQ hQQ => ?_
  refine r_If ?_
  with_reducible refine r_isCmp ?_
  refine r_Attr ?_
  refine r_local rfl rfl rfl rfl ?_
  refine r_getR hSx hSdx hf rfl rfl ?_
  with_reducible refine r_none ?_
  refine r_is rfl ?_
  with_reducible refine r_tBool ?_
  refine iteB (fun hb => absurd (show false = true from hb) (by decide)) (fun hb => ?_)
  with_reducible refine r_nil ?_
  with_reducible refine leafN (by assumption) ?_
  with_reducible refine r_consQ fun QQ hQQ => ?_
  refine r_Assign ?_
  refine r_Call ?_
  (refine' r_builtin rfl rfl rfl rfl ?e ?hv ?hn ?_; (case e => k_is); (case hv => boot_by_name); (case hn => decide))
  refine r_cwT ?_
  refine r_argCons ?_
  refine r_Attr ?_
  refine r_local rfl rfl rfl rfl ?_
  refine r_getR hSx hSdx hf rfl rfl ?_
  with_reducible refine r_argNil ?_
  refine r_tupleL hRr (by rw [sizeLine_eq]; omega) fun tu => ?_
  refine r_store rfl rfl rfl ?_
  with_reducible refine leafN (by assumption) ?_
  with_reducible refine r_consQ fun QQ hQQ => ?_
  refine r_Assign ?_
  refine r_Attr ?_
  refine r_local rfl rfl rfl rfl ?_
  refine r_getD (hSx (pre := _ :: pre)) (hSdx (pre := _ :: pre)) hf rfl rfl ?_
  refine r_store rfl rfl rfl ?_
  with_reducible refine leafN (by assumption) ?_
  with_reducible refine r_consQ fun QQ hQQ => ?_
  refine r_ForTup R'.h ?_
  refine r_local rfl rfl rfl rfl ?_
  refine ⟨tu, rv, fun i m' l' => ∃ ns3, A6 (l' = (tu, tupO rv) :: (pre ++ RL x dx d r ox od ns3 rv rc post)) (Bd C.W.w ns3 od (outNP NP (rs.take i)) SU) (keysOf ns3 = keysOf ns) (m' "self" = some (.ref x)) (m' "n2i" = some (.ref d)) (m' "result" = some (.ref tu)), rfl, Has.head, ?_, ?_, ?_, ?_⟩
  · rintro i m' l' ⟨ns3, rfl, _⟩; exact Has.head
  · exact ⟨ns, rfl, by rw [show outNP NP (rs.take 0) = NP from by funext j; simp [outNP]]; exact B, rfl, by walk_at "look", by walk_at "look", by walk_at "look"⟩
  · rintro E3 I o3 i v m' l' hvi ⟨ns3, rfl, B3, hk3, hm1, hm2, hm3⟩
    obtain ⟨y, ty, hy, rfl⟩ := strsAre_get' hv hvi
    obtain ⟨n, hn, hny⟩ := mem_key (by rw [hk3]; exact hsub y (List.mem_of_getElem? hy))
    refine r_store rfl rfl rfl ?_
    with_reducible refine r_consQ fun QQ hQQ => ?_
    refine r_AssignAttr ?_
    (refine' r_global rfl rfl rfl ?e ?_; (case e => k_is))
    with_reducible refine r_Sub ?_
    (refine' r_local rfl rfl rfl ?hv ?_; (case hv => walk_at "look"))
    refine r_local rfl rfl rfl rfl ?_
    refine r_dItem (hSd (pre := _ :: _ :: pre)) B3.dk (k := y) (strKind_is _ _ _ _) (by rw [← hny]; exact valueAt_kvs B3.nd hn) ?_
    obtain ⟨p, q, e⟩ := List.append_of_mem hn
    refine r_setNp (pre := _ :: _ :: pre) e ?_
    subst e
    have B4 := fun tk => B3.upd (n' := { n with np := -1, npt := tk }) (NP' := outNP NP (rs.take (i + 1))) (SU' := SU) rfl rfl (by simp [outNP, mem_take_succ hy, hny]) (B3.su n hn) (fun j hj => ⟨by rw [hny] at hj; simp [outNP, mem_take_succ hy, hj], rfl⟩)
    with_reducible refine leafN (by assumption) ?_
    with_reducible refine r_nil ?_
    exact TurnF.next _ (.refl _) ⟨_, rfl, B4 _, by rw [← hk3]; simp [keysOf], by walk_at "look", by walk_at "look", by walk_at "look"⟩
  · rintro E3 m' l' ⟨ns3, rfl, B3, hk3, hm1, hm2, hm3⟩
    rw [hlen, List.take_length] at B3
    with_reducible refine r_nil ?_
    with_reducible refine leafN (by assumption) ?_
    with_reducible refine r_consQ fun QQ hQQ => ?_
    refine r_Expr ?_
    refine r_MCall ?_
    refine r_Attr ?_
    (refine' r_local rfl rfl rfl ?hv ?_; (case hv => walk_at "look"))
    refine r_getR (hSx (pre := _ :: pre)) (hSdx (pre := _ :: pre)) hf rfl rfl ?_
    refine r_gmClear (hRr (pre := _ :: pre)) ?_
    refine r_cwB0 ?_
    refine r_clear (vs := rv) (n := rc) (pre := ((tu, tupO rv) :: pre) ++ SL x dx d ox od ns3) (post := post) (by simp [RL]) (by rw [sizeLine_eq]; omega) fun c5 => ?_
    rw [show ((tu, tupO rv) :: pre) ++ SL x dx d ox od ns3 ++ (r, listO [] c5) :: post = ((tu, tupO rv) :: pre) ++ RL x dx d r ox od ns3 [] c5 post from by simp [RL]]
    with_reducible refine leafN (by assumption) ?_
    with_reducible refine r_consQ fun QQ hQQ => ?_
    refine r_AugAttr ?_
    (refine' r_local rfl rfl rfl ?hv ?_; (case hv => walk_at "look"))
    refine r_getP (hSx (pre := _ :: pre)) (hSdx (pre := _ :: pre)) hf rfl rfl ?_
    refine r_Call ?_
    (refine' r_builtin rfl rfl rfl rfl ?e ?hv ?hn ?_; (case e => k_is); (case hv => boot_by_name); (case hn => decide))
    refine r_cwB ?_
    refine r_argCons ?_
    (refine' r_local rfl rfl rfl ?hv ?_; (case hv => walk_at "look"))
    with_reducible refine r_argNil ?_
    refine r_lenTup (vs := rv) Has.head (by omega) fun t6 => ?_
    refine r_iaddI fun t7 => ?_
    refine r_setP (pre := ((tu, tupO rv) :: pre) ++ [(x, insO 173 dx #[])]) (post := (d, od) :: nds ns3 ++ (r, listO [] c5) :: post) (hSx (pre := _ :: pre)) (by simp [RL]) hf (Nat.le_of_ble_eq_true rfl) fun o8 ho8 => ?_
    with_reducible refine leafN (by assumption) ?_
    with_reducible refine r_consQ fun QQ hQQ => ?_
    with_reducible refine r_Ret ?_
    (refine' r_local rfl rfl rfl ?hv ?_; (case hv => walk_at "look"))
    with_reducible refine leafR (by assumption) ?_
    have ho9 : FieldsO (fsOf d (.ref r) (a + rv.length) b t7 t2) o8 := ho8
    rw [hlen] at ho9
    refine ⟨_, .refl _, _, ?_, h tu ns3 o8 od c5 t7 ho9 B3 hk3⟩
    simp [RL]
theorem active_spec {Q : Value → Loc → Led → Prop} (R : Room C 2) (hf : FieldsO (fsOf d (.ref r) a b t1 t2) ox) (hz : rv.length ≤ 1000)
    (h : Q (.bool (decide (b < a) || !rv.isEmpty)) m (pre ++ RL x dx d r ox od ns rv rc post)) :
    T C m (pre ++ RL x dx d r ox od ns rv rc post) (call (.ref 142) [.ref x]) Q := by
  refine' r_callDef (binds := [("self", .ref x)]) (k := 1) ?R ?ho ?hcd ?hbind ?hloc ?hco ?hgen ?hk ?hcell fun A' E' β' L' R' up => ?_
  walk_at "enter"
  with_reducible refine r_consQ fun QQ hQQ => ?_
  refine r_If ?_
  with_reducible refine r_isCmp ?_
  refine r_Attr ?_
  refine r_local rfl rfl rfl rfl ?_
  refine r_getR hSx hSdx hf rfl rfl ?_
  with_reducible refine r_none ?_
  refine r_is rfl ?_
  with_reducible refine r_tBool ?_
  refine iteB (fun hb => absurd (show false = true from hb) (by decide)) (fun hb => ?_)
  with_reducible refine r_nil ?_
  with_reducible refine leafN (by assumption) ?_
  with_reducible refine r_consQ fun QQ hQQ => ?_
  with_reducible refine r_Ret ?_
  with_reducible refine r_Or ?_
  with_reducible refine r_Cmp ?_
  refine r_Attr ?_
  refine r_local rfl rfl rfl rfl ?_
  refine r_getF hSx hSdx hf rfl rfl ?_
  skip
  refine r_Attr ?_
  refine r_local rfl rfl rfl rfl ?_
  refine r_getP hSx hSdx hf rfl rfl ?_
  with_reducible refine r_ltI ?_
  with_reducible refine r_tBool ?_
  refine iteB (fun hb => ?_) (fun hb => ?_)
  · rw [hb] at h
    with_reducible refine leafR (by assumption) ?_
    exact ⟨_, .refl _, by rw [hb]; exact h⟩
  · with_reducible refine r_BoolOne ?_
    refine r_Call ?_
    (refine' r_builtin rfl rfl rfl rfl ?e ?hv ?hn ?_; (case e => k_is); (case hv => boot_by_name); (case hn => decide))
    refine r_cwT ?_
    refine r_argCons ?_
    refine r_Attr ?_
    refine r_local rfl rfl rfl rfl ?_
    refine r_getR hSx hSdx hf rfl rfl ?_
    with_reducible refine r_argNil ?_
    refine r_boolL hRr (by omega) ?_
    with_reducible refine leafR (by assumption) ?_
    rw [hb] at h
    exact ⟨_, .refl _, by simpa using h⟩
end
end G6
namespace G7
open F1 G0 G1 G2 G3 G4 G5 G6
abbrev putN (NP : Str → Int) (k : Str) (v : Int) : Str → Int := fun j => if j = k then v else NP j
def decS (st : (Str → Int) × List Str) (s : Str) : (Str → Int) × List Str := (putN st.1 s (st.1 s - 1), if st.1 s - 1 = 0 then st.2 ++ [s] else st.2)
def dnode (SU : Str → List Str) (st : (Str → Int) × List Str) (n : Str) : (Str → Int) × List Str := (SU n).foldl decS (putN st.1 n (-2), st.2)
def dall (SU : Str → List Str) (st : (Str → Int) × List Str) (l : List Str) : (Str → Int) × List Str := l.foldl (dnode SU) st
theorem take_foldl {α β : Type} (f : β → α → β) (st : β) {l : List α} {i : Nat} {y : α} (h : l[i]? = some y) : (l.take (i + 1)).foldl f st = f ((l.take i).foldl f st) y := by
  rw [List.take_add_one, h, List.foldl_append]; rfl
theorem decS_len (st : (Str → Int) × List Str) (s : Str) : (decS st s).2.length ≤ st.2.length + 1 := by unfold decS; dsimp only; split <;> simp
theorem foldl_dec_len (l : List Str) : ∀ st : (Str → Int) × List Str, (l.foldl decS st).2.length ≤ st.2.length + l.length := by
  induction l with
  | nil => intro st; simp
  | cons a r ih => intro st; have := ih (decS st a); have := decS_len st a; simp only [List.foldl_cons, List.length_cons]; omega
theorem dall_len (SU : Str → List Str) (hs : ∀ k, (SU k).length ≤ 20) (l : List Str) : ∀ st : (Str → Int) × List Str, (dall SU st l).2.length ≤ st.2.length + 20 * l.length := by
  induction l with
  | nil => intro st; simp [dall]
  | cons a r ih =>
    intro st
    have h1 := ih (dnode SU st a)
    have h2 := foldl_dec_len (SU a) (putN st.1 a (-2), st.2)
    have h3 := hs a
    have h4 : (dnode SU st a).2.length ≤ st.2.length + (SU a).length := h2
    show (dall SU (dnode SU st a) r).2.length ≤ _
    simp only [List.length_cons]
    omega
theorem keepNode {p q : List Nd} {n n5 : Nd} {v : Int} {t : Tok} (h : n5 ∈ p ++ n :: q) : ∃ n', n' ∈ p ++ { n with np := v, npt := t } :: q ∧ n'.l = n5.l ∧ n'.sv = n5.sv ∧ n'.sc = n5.sc := by
  rcases List.mem_append.mp h with h | h
  · exact ⟨n5, by simp [h], rfl, rfl, rfl⟩
  · rcases List.mem_cons.mp h with rfl | h
    · exact ⟨{ n5 with np := v, npt := t }, by simp, rfl, rfl, rfl⟩
    · exact ⟨n5, by simp [h], rfl, rfl, rfl⟩
section
variable {C : Cx} {m : Loc} {pre post : Led} {x dx d r : Addr} {ox od : Obj} {ns : List Nd} {rv : List Value} {rc : Nat} {rs : List Str} {a b : Int} {t1 t2 : Tok} {NP : Str → Int} {SU : Str → List Str}
theorem done_spec {Q : Value → Loc → Led → Prop} {vs : List Value} {gs : List Str} (R : Room C 4) (hf : FieldsO (fsOf d (.ref r) a b t1 t2) ox) (hsys : (d == sysModules) = false) (B : Bd C.W.w ns od NP SU) (hr : StrsAre rv rs) (hv : StrsAre vs gs) (hsub : ∀ j ∈ gs, j ∈ keysOf ns) (hsu : ∀ k j, j ∈ SU k → j ∈ keysOf ns)
    (hout : ∀ i y, gs[i]? = some y → (dall SU (NP, rs) (gs.take i)).1 y = -1) (hs : ∀ k, (SU k).length ≤ 20) (hz : gs.length ≤ 20 ∧ rs.length ≤ 20)
    (h : ∀ ns' ox' rv' rc' t3, FieldsO (fsOf d (.ref r) a (b + gs.length) t1 t3) ox' → Bd C.W.w ns' od (dall SU (NP, rs) gs).1 SU → StrsAre rv' (dall SU (NP, rs) gs).2 → keysOf ns' = keysOf ns → Q .none m (pre ++ RL x dx d r ox' od ns' rv' rc' post)) :
    Tc C m (pre ++ RL x dx d r ox od ns rv rc post) (.call (.ref 156) ⟨.ref x :: vs, []⟩) Q := by
  have hlen := strsAre_len hv
  refine' r_callDefSc (k := 3) ?R ?ho ?hcd ?hco ?hgen ?hk fun A1 => ?_
  (case R => walk_at "room")
  (case ho => k_is)
  (case hcd => k_is)
  (case hco => exact rfl)
  (case hgen => exact rfl)
  (case hk => exact rfl)
  refine r_bindVar1 rfl rfl (by rw [sizeLine_eq]; omega) fun tu => ⟨locs rfl, fun A' E' β' L' R' up => ?_⟩
  show T _ _ (((tu, tupO vs) :: pre) ++ RL x dx d r ox od ns rv rc post) _ _
  with_reducible refine r_consQ fun QQ hQQ => ?_
  refine r_If ?_
  with_reducible refine r_isCmp ?_
  refine r_Attr ?_
  refine r_local rfl rfl rfl rfl ?_
  refine r_getR hSx hSdx hf rfl rfl ?_
  with_reducible refine r_none ?_
  refine r_is rfl ?_
  with_reducible refine r_tBool ?_
  refine iteB (fun hb => absurd (show false = true from hb) (by decide)) (fun hb => ?_)
  with_reducible refine r_nil ?_
  with_reducible refine leafN (by assumption) ?_
  with_reducible refine r_consQ fun QQ hQQ => ?_
  refine r_Assign ?_
  refine r_Attr ?_
  refine r_local rfl rfl rfl rfl ?_
  refine r_getD hSx hSdx hf rfl rfl ?_
  refine r_store rfl rfl rfl ?_
  with_reducible refine leafN (by assumption) ?_
  with_reducible refine r_consQ fun QQ hQQ => ?_
  refine r_ForTup R'.h ?_
  refine r_local rfl rfl rfl rfl ?_
  obtain ⟨J1, hJ1⟩ : ∃ J1 : Nat → Loc → Led → Prop, ∀ i m' l', J1 i m' l' ↔ (Ex5 fun ns3 ox3 rv3 rc3 t3 => A7 (l' = (tu, tupO vs) :: (pre ++ RL x dx d r ox3 od ns3 rv3 rc3 post)) (FieldsO (fsOf d (.ref r) a (b + i) t1 t3) ox3) (Bd C.W.w ns3 od (dall SU (NP, rs) (gs.take i)).1 SU) (StrsAre rv3 (dall SU (NP, rs) (gs.take i)).2) (keysOf ns3 = keysOf ns) (m' "self" = some (.ref x)) (m' "n2i" = some (.ref d))) := ⟨_, fun _ _ _ => Iff.rfl⟩
  refine ⟨tu, vs, J1, rfl, Has.head, ?_, ?_, ?_, ?_⟩
  · intro i m' l' hj; obtain ⟨ns3, ox3, rv3, rc3, t3, rfl, _⟩ := (hJ1 _ _ _).mp hj; exact Has.head
  · exact (hJ1 _ _ _).mpr ⟨ns, ox, rv, rc, t2, rfl, by simpa using hf, by simpa [dall] using B, by simpa [dall] using hr, rfl, by walk_at "look", by walk_at "look"⟩
  · intro E3 I o3 i v m' l' hvi hj
    obtain ⟨ns3, ox3, rv3, rc3, t3, rfl, hf3, B3, hr3, hk3, hm1, hm2⟩ := (hJ1 _ _ _).mp hj
    obtain ⟨y, ty, hy, rfl⟩ := strsAre_get' hv hvi
    have hi : i < gs.length := (List.getElem?_eq_some_iff.mp hy).1
    obtain ⟨n, hn, hny⟩ := mem_key (by rw [hk3]; exact hsub y (List.mem_of_getElem? hy))
    have hva : valueAt (kvsOf ns3) y = some (.ref n.a) := by rw [← hny]; exact valueAt_kvs B3.nd hn
    have hnp : n.np = -1 := by rw [B3.np n hn, hny]; exact hout i y hy
    have hrl : (dall SU (NP, rs) (gs.take i)).2.length ≤ 500 := by
      have h1 := dall_len SU hs (gs.take i) (NP, rs)
      have h2 := List.length_take_le i gs
      simp only at h1
      omega
    have htk : dall SU (NP, rs) (gs.take (i + 1)) = dnode SU (dall SU (NP, rs) (gs.take i)) y := take_foldl _ _ hy
    generalize dall SU (NP, rs) (gs.take i) = st at B3 hr3 hrl htk
    refine r_store rfl rfl rfl ?_
    with_reducible refine r_consQ fun QQ hQQ => ?_
    refine r_If ?_
    with_reducible refine r_isCmp ?_
    refine r_Named ?_
    refine r_MCall ?_
    (refine' r_local rfl rfl rfl ?hv ?_; (case hv => walk_at "look"))
    refine r_gmDict (hSd (pre := _ :: _ :: pre)) B3.dk PySem.F.slot_dict_get PySem.F.type_dict_get ?_
    refine r_cwB ?_
    refine r_argCons ?_
    refine r_local rfl rfl rfl rfl ?_
    with_reducible refine r_argNil ?_
    refine r_dGet1 (hSd (pre := _ :: _ :: pre)) B3.dk hsys (strKind_is _ _ _ _) ?_
    rw [hva]
    refine r_store rfl rfl rfl ?_
    with_reducible refine r_none ?_
    refine r_is rfl ?_
    with_reducible refine r_tBool ?_
    refine iteB (fun hb => absurd (show false = true from hb) (by decide)) (fun hb => ?_)
    with_reducible refine r_nil ?_
    with_reducible refine leafN (by assumption) ?_
    with_reducible refine r_consQ fun QQ hQQ => ?_
    refine r_Assign ?_
    refine r_Attr ?_
    refine r_local rfl rfl rfl rfl ?_
    refine r_getN1 (hNa (pre := _ :: _ :: pre) hn) (hNdx (pre := _ :: _ :: pre) hn) rfl ?_
    refine r_store rfl rfl rfl ?_
    with_reducible refine leafN (by assumption) ?_
    with_reducible refine r_consQ fun QQ hQQ => ?_
    refine r_If ?_
    with_reducible refine r_isCmp ?_
    refine r_local rfl rfl rfl rfl ?_
    (refine' r_global rfl rfl rfl ?e ?_; (case e => k_is))
    with_reducible refine r_neI ?_
    with_reducible refine r_tBool ?_
    refine iteB (fun hb => absurd hb (by rw [hnp]; decide)) (fun hb => ?_)
    with_reducible refine r_nil ?_
    with_reducible refine leafN (by assumption) ?_
    with_reducible refine r_consQ fun QQ hQQ => ?_
    refine r_AssignAttr ?_
    (refine' r_global rfl rfl rfl ?e ?_; (case e => k_is))
    refine r_local rfl rfl rfl rfl ?_
    obtain ⟨p, q, e⟩ := List.append_of_mem hn
    refine r_setNp (pre := _ :: _ :: pre) e ?_
    have hsub3 : ∀ tk, keysOf (p ++ { n with np := -2, npt := tk } :: q) = keysOf ns := fun tk => by rw [← hk3, e]; simp [keysOf]
    have B4 : ∀ tk, Bd C.W.w (p ++ { n with np := -2, npt := tk } :: q) od (putN st.1 y (-2)) SU := fun tk => by
      subst e
      exact B3.upd (n' := { n with np := -2, npt := tk }) (NP' := putN st.1 y (-2)) (SU' := SU) rfl rfl (by simp [putN, hny]) (B3.su n hn) (fun j hj => ⟨by rw [hny] at hj; simp [putN, hj], rfl⟩)
    have hsv := B3.su n hn
    rw [hny] at hsv
    have hsl := strsAre_len hsv
    have hsy := hs y
    have hgen : ∀ tk, ∃ n', n' ∈ p ++ { n with np := -2, npt := tk } :: q ∧ n'.l = n.l ∧ n'.sv = n.sv ∧ n'.sc = n.sc := fun tk => keepNode (by rw [← e]; exact hn)
    have hnew : ∀ tk, { n with np := -2, npt := tk } ∈ p ++ { n with np := -2, npt := tk } :: q := fun tk => by simp
    with_reducible refine leafN (by assumption) ?_
    with_reducible refine r_consQ fun QQ hQQ => ?_
    refine r_ForList R'.h ?_
    refine r_Attr ?_
    refine r_local rfl rfl rfl rfl ?_
    refine r_getN2 (hNa (pre := _ :: _ :: pre) (n := { n with np := -2, npt := _ }) (hnew _)) (hNdx (pre := _ :: _ :: pre) (n := { n with np := -2, npt := _ }) (hnew _)) rfl ?_
    obtain ⟨J2, hJ2⟩ : ∃ J2 : Nat → Loc → Led → Prop, ∀ j m5 l5, J2 j m5 l5 ↔ (Ex3 fun ns5 rv5 rc5 => A7 (l5 = (I, o3) :: (tu, tupO vs) :: (pre ++ RL x dx d r ox3 od ns5 rv5 rc5 post)) (Bd C.W.w ns5 od (((SU y).take j).foldl decS (putN st.1 y (-2), st.2)).1 SU) (StrsAre rv5 (((SU y).take j).foldl decS (putN st.1 y (-2), st.2)).2) (keysOf ns5 = keysOf ns) ((∃ n5, n5 ∈ ns5 ∧ n5.l = n.l ∧ n5.sv = n.sv ∧ n5.sc = n.sc)) (m5 "self" = some (.ref x)) (m5 "n2i" = some (.ref d))) := ⟨_, fun _ _ _ => Iff.rfl⟩
    refine ⟨n.l, n.sv, n.sc, J2, rfl, hNl (pre := _ :: _ :: pre) (n := { n with np := -2, npt := _ }) (hnew _), ?_, ?_, ?_, ?_⟩
    · intro j m5 l5 hj
      obtain ⟨ns5, rv5, rc5, rfl, _, _, _, ⟨n5, h5, e1, e2, e3⟩, _⟩ := (hJ2 _ _ _).mp hj
      rw [← e1, ← e2, ← e3]
      exact hNl (pre := _ :: _ :: pre) h5
    · exact (hJ2 _ _ _).mpr ⟨_, rv3, rc3, rfl, B4 _, hr3, hsub3 _, hgen _, by walk_at "look", by walk_at "look"⟩
    · intro E5 I5 o5 j v m5 l5 hvj hj
      obtain ⟨ns5, rv5, rc5, rfl, B5, hr5, hk5, hn5, hm5, hm6⟩ := (hJ2 _ _ _).mp hj
      obtain ⟨z, tz, hz5, rfl⟩ := strsAre_get' hsv hvj
      have hst : (((SU y).take j).foldl decS (putN st.1 y (-2), st.2)).2.length ≤ 600 := by
        have h1 := foldl_dec_len ((SU y).take j) (putN st.1 y (-2), st.2)
        have h2 := List.length_take_le' j (SU y)
        simp only at h1
        omega
      have hfold : ((SU y).take (j + 1)).foldl decS (putN st.1 y (-2), st.2) = decS (((SU y).take j).foldl decS (putN st.1 y (-2), st.2)) z := take_foldl _ _ hz5
      generalize ((SU y).take j).foldl decS (putN st.1 y (-2), st.2) = st5 at B5 hr5 hst hfold
      obtain ⟨n6, hn6, hny6⟩ := mem_key (by rw [hk5]; exact hsu y z (List.mem_of_getElem? hz5))
      have hva6 : valueAt (kvsOf ns5) z = some (.ref n6.a) := by rw [← hny6]; exact valueAt_kvs B5.nd hn6
      have hlr := strsAre_len hr5
      refine r_store rfl rfl rfl ?_
      with_reducible refine r_consQ fun QQ hQQ => ?_
      refine r_Assign ?_
      with_reducible refine r_Sub ?_
      (refine' r_local rfl rfl rfl ?hv ?_; (case hv => walk_at "look"))
      refine r_local rfl rfl rfl rfl ?_
      refine r_dItem (hSd (pre := _ :: _ :: _ :: pre)) B5.dk (strKind_is _ _ _ _) hva6 ?_
      refine r_store rfl rfl rfl ?_
      with_reducible refine leafN (by assumption) ?_
      with_reducible refine r_consQ fun QQ hQQ => ?_
      refine r_AugAttr ?_
      refine r_local rfl rfl rfl rfl ?_
      refine r_getN1 (hNa (pre := _ :: _ :: _ :: pre) hn6) (hNdx (pre := _ :: _ :: _ :: pre) hn6) rfl ?_
      with_reducible refine r_int fun zt => ?_
      refine r_isubI fun t8 => ?_
      obtain ⟨p6, q6, e6⟩ := List.append_of_mem hn6
      refine r_setNp (pre := _ :: _ :: _ :: pre) e6 ?_
      have hk7 : keysOf (p6 ++ { n6 with np := n6.np - 1, npt := t8 } :: q6) = keysOf ns := by rw [← hk5, e6]; simp [keysOf]
      have hn7 : { n6 with np := n6.np - 1, npt := t8 } ∈ p6 ++ { n6 with np := n6.np - 1, npt := t8 } :: q6 := by simp
      have hg7 : ∃ n', n' ∈ p6 ++ { n6 with np := n6.np - 1, npt := t8 } :: q6 ∧ n'.l = n.l ∧ n'.sv = n.sv ∧ n'.sc = n.sc := by
        obtain ⟨n5, h5, e1, e2, e3⟩ := hn5
        obtain ⟨n8, h8, f1, f2, f3⟩ := keepNode (v := n6.np - 1) (t := t8) (by rw [← e6]; exact h5)
        exact ⟨n8, h8, f1.trans e1, f2.trans e2, f3.trans e3⟩
      have hnp6 := B5.np n6 hn6
      rw [hny6] at hnp6
      have B7 : Bd C.W.w (p6 ++ { n6 with np := n6.np - 1, npt := t8 } :: q6) od (decS st5 z).1 SU := by
        subst e6
        exact B5.upd (n' := { n6 with np := n6.np - 1, npt := t8 }) (NP' := (decS st5 z).1) (SU' := SU) rfl rfl (by simp [decS, putN, hny6, hnp6]) (B5.su n6 hn6) (fun j hj => ⟨by rw [hny6] at hj; simp [decS, putN, hj], rfl⟩)
      with_reducible refine leafN (by assumption) ?_
      with_reducible refine r_consQ fun QQ hQQ => ?_
      refine r_If ?_
      with_reducible refine r_isCmp ?_
      refine r_Attr ?_
      refine r_local rfl rfl rfl rfl ?_
      refine r_getN1 (hNa (pre := _ :: _ :: _ :: pre) (n := { n6 with np := n6.np - 1, npt := t8 }) hn7) (hNdx (pre := _ :: _ :: _ :: pre) (n := { n6 with np := n6.np - 1, npt := t8 }) hn7) rfl ?_
      with_reducible refine r_int fun zt => ?_
      with_reducible refine r_eqI ?_
      with_reducible refine r_tBool ?_
      refine iteB (fun hb5 => ?_) (fun hb5 => ?_)
      · with_reducible refine r_consQ fun QQ hQQ => ?_
        refine r_Expr ?_
        refine r_MCall ?_
        refine r_Attr ?_
        (refine' r_local rfl rfl rfl ?hv ?_; (case hv => walk_at "look"))
        refine r_getR (hSx (pre := _ :: _ :: _ :: pre)) (hSdx (pre := _ :: _ :: _ :: pre)) hf3 rfl rfl ?_
        refine r_gmAppend (hRr (pre := _ :: _ :: _ :: pre)) ?_
        refine r_cwB ?_
        refine r_argCons ?_
        refine r_local rfl rfl rfl rfl ?_
        with_reducible refine r_argNil ?_
        refine r_append (vs := rv5) (n := rc5) (pre := ((I5, o5) :: (I, o3) :: (tu, tupO vs) :: pre) ++ SL x dx d ox3 od (p6 ++ { n6 with np := n6.np - 1, npt := t8 } :: q6)) (post := post) (by simp [RL]) (by rw [sizeLine_eq]; omega) fun c9 => ?_
        with_reducible refine leafN (by assumption) ?_
        with_reducible refine r_nil ?_
        with_reducible refine leafN (by assumption) ?_
        with_reducible refine r_nil ?_
        rw [hnp6] at hb5
        have hz0 : st5.1 z - 1 = 0 := by simpa using hb5
        refine TurnF.next ((I, o3) :: (tu, tupO vs) :: (pre ++ RL x dx d r ox3 od (p6 ++ { n6 with np := n6.np - 1, npt := t8 } :: q6) (rv5 ++ [.str z tz]) c9 post)) (by simp [RL]) ((hJ2 _ _ _).mpr ⟨_, _, c9, rfl, by rw [hfold]; exact B7, ?_, hk7, hg7, by walk_at "look", by walk_at "look"⟩)
        rw [hfold]
        unfold decS
        dsimp only
        rw [if_pos hz0]
        exact strsAre_snoc hr5
      · with_reducible refine r_nil ?_
        with_reducible refine leafN (by assumption) ?_
        with_reducible refine r_nil ?_
        rw [hnp6] at hb5
        have hz0 : ¬ st5.1 z - 1 = 0 := by simpa using hb5
        refine TurnF.next _ (.refl _) ((hJ2 _ _ _).mpr ⟨_, rv5, rc5, rfl, by rw [hfold]; exact B7, ?_, hk7, hg7, by walk_at "look", by walk_at "look"⟩)
        rw [hfold]
        unfold decS
        dsimp only
        rw [if_neg hz0]
        exact hr5
    · intro E5 m5 l5 hj
      obtain ⟨ns5, rv5, rc5, rfl, B5, hr5, hk5, hn5, hm5, hm6⟩ := (hJ2 _ _ _).mp hj
      rw [hsl, List.take_length] at B5 hr5
      with_reducible refine r_nil ?_
      with_reducible refine leafN (by assumption) ?_
      with_reducible refine r_consQ fun QQ hQQ => ?_
      refine r_AugAttr ?_
      (refine' r_local rfl rfl rfl ?hv ?_; (case hv => walk_at "look"))
      refine r_getF (hSx (pre := _ :: _ :: pre)) (hSdx (pre := _ :: _ :: pre)) hf3 rfl rfl ?_
      with_reducible refine r_int fun zt => ?_
      refine r_iaddI fun t9 => ?_
      refine r_setF (pre := ((I, o3) :: (tu, tupO vs) :: pre) ++ [(x, insO 173 dx #[])]) (post := (d, od) :: nds ns5 ++ (r, listO rv5 rc5) :: post) (hSx (pre := _ :: _ :: pre)) (by simp [RL]) hf3 (Nat.le_of_ble_eq_true rfl) fun o8 ho8 => ?_
      with_reducible refine leafN (by assumption) ?_
      with_reducible refine r_nil ?_
      have ho9 : FieldsO (fsOf d (.ref r) a (b + i + 1) t1 t9) o8 := ho8
      refine TurnF.next ((tu, tupO vs) :: (pre ++ RL x dx d r o8 od ns5 rv5 rc5 post)) (by simp [RL]) ((hJ1 _ _ _).mpr ⟨ns5, o8, rv5, rc5, t9, rfl, by rw [show (b + ((i + 1 : Nat) : Int)) = b + i + 1 by omega]; exact ho9, by rw [htk]; exact B5, by rw [htk]; exact hr5, hk5, by walk_at "look", by walk_at "look"⟩)
  · intro E3 m' l' hj
    obtain ⟨ns3, ox3, rv3, rc3, t3, rfl, hf3, B3, hr3, hk3, hm1, hm2⟩ := (hJ1 _ _ _).mp hj
    rw [hlen, List.take_length] at B3 hr3
    rw [hlen] at hf3
    with_reducible refine r_nil ?_
    with_reducible refine leafN (by assumption) ?_
    with_reducible refine r_nil ?_
    exact ⟨_, List.sublist_cons_self _ _, h ns3 ox3 rv3 rc3 t3 hf3 B3 hr3 hk3⟩
end
end G7
namespace G8
open F1 G0 G1 G2 G3 G4 G5 G6 G7
theorem ifT {X Y : Prop} (h : X) : if true = true then X else Y := h
theorem nodup_le : ∀ {l l2 : List Str}, l.Nodup → (∀ a ∈ l, a ∈ l2) → l.length ≤ l2.length
  | [], _, _, _ => Nat.zero_le _
  | a :: r, l2, hn, h => by
    have h1 := List.nodup_cons.mp hn
    have h2 : r.length ≤ (l2.erase a).length := nodup_le h1.2 fun b hb => by
      have hba : b ≠ a := fun e => h1.1 (e ▸ hb)
      exact (List.mem_erase_of_ne hba).mpr (h b (by simp [hb]))
    have h3 := List.length_erase_of_mem (h a (by simp))
    have h4 : 0 < l2.length := List.length_pos_of_mem (h a (by simp))
    simp only [List.length_cons]
    omega
structure SFr where
  key : Str
  kt : Tok
  mw : Addr
  it : Addr
  oi : Obj
  l : Addr
abbrev SFr.led (f : SFr) : Led := [(f.mw, mwO f.it), (f.it, f.oi)]
def frsL (frs : List SFr) : Led := frs.flatMap SFr.led
theorem frsL_nil : frsL [] = [] := rfl
theorem frsL_snoc (frs : List SFr) (f : SFr) : frsL (frs ++ [f]) = frsL frs ++ [(f.mw, mwO f.it), (f.it, f.oi)] := by simp [frsL]
abbrev kysOf (frs : List SFr) : List Str := frs.map (·.key)
structure DfOk (w : World) (ns : List Nd) (SU : Str → List Str) (frs : List SFr) (tk : Str → Nat) (S : Str → Bool) (nx : Option Str) (on os : Obj) : Prop where
  D : Dfs SU S (kysOf frs) tk nx
  fr : ∀ f ∈ frs, ∃ n, n ∈ ns ∧ n.key = f.key ∧ n.l = f.l ∧ LiO f.l (tk f.key) f.oi
  dn : ∃ kvs, on.IsDictOf (strKind PG w) kvs ∧ kvs.map (·.1) = kysOf frs ∧ ∀ p ∈ kvs, ∃ i t, p.2 = .int i t
  ds : ∃ c, SetO (strKind PG w) S c os ∧ c ≤ ((keysOf ns).filter S).length
  sk : ∀ k, S k = true → k ∈ keysOf ns
theorem valueAt_isSome {kvs : List (Str × Value)} {k : Str} : (valueAt kvs k).isSome = decide (k ∈ kvs.map (·.1)) := by
  induction kvs with
  | nil => simp [valueAt]
  | cons p r ih =>
    unfold valueAt at ih ⊢
    rw [List.find?_cons]
    by_cases e : p.1 = k
    · simp [e]
    · simp only [decide_eq_false e]
      rw [ih]
      have : (k ∈ (p :: r).map (·.1)) ↔ k ∈ r.map (·.1) := by simp [Ne.symm e]
      simp only [this]
theorem stored_fresh {kvs : List (Str × Value)} {k : Str} {v : Value} (h : k ∉ kvs.map (·.1)) : stored kvs k v = kvs ++ [(k, v)] := by
  unfold stored
  rw [if_neg]
  intro hany
  obtain ⟨p, hp, he⟩ := List.any_eq_true.mp hany
  simp only [decide_eq_true_eq] at he
  exact h (by rw [← he]; exact List.mem_map_of_mem hp)
theorem without_last {kvs : List (Str × Value)} {s0 : List Str} {t : Str} (h : kvs.map (·.1) = s0 ++ [t]) (ht : t ∉ s0) : (without kvs t).map (·.1) = s0 := by
  have e : (without kvs t).map (·.1) = (kvs.map (·.1)).filter fun a => decide (a ≠ t) := by
    unfold without
    rw [List.filter_map]
    rfl
  rw [e, h, List.filter_append]
  have h1 : s0.filter (fun a => decide (a ≠ t)) = s0 := List.filter_eq_self.mpr fun a ha => by simp; intro e; exact ht (e ▸ ha)
  rw [h1]
  simp
theorem filter_more {ks : List Str} {S : Str → Bool} {n : Str} (hn : n ∈ ks) (hS : S n = false) : (ks.filter S).length + 1 ≤ (ks.filter fun k => S k || decide (k = n)).length := by
  induction ks with
  | nil => cases hn
  | cons a r ih =>
    have hle : ∀ r : List Str, (r.filter S).length ≤ (r.filter fun k => S k || decide (k = n)).length := by
      intro r
      induction r with
      | nil => simp
      | cons b r ih2 =>
        rw [List.filter_cons, List.filter_cons]
        cases hb : S b
        · simp only [Bool.false_or, Bool.false_eq_true, if_false]
          split <;> (try simp) <;> omega
        · simp only [Bool.true_or, if_true, List.length_cons]
          omega
    rcases List.mem_cons.mp hn with rfl | hn
    · rw [List.filter_cons, List.filter_cons, hS]
      have := hle r
      simp
      omega
    · have := ih hn
      rw [List.filter_cons, List.filter_cons]
      cases hb : S a
      · simp only [Bool.false_or, Bool.false_eq_true, if_false]
        split <;> (try simp) <;> omega
      · simp only [Bool.true_or, if_true, List.length_cons]
        omega
section
variable {C : Cx} {m : Loc} {pre post : Led} {x dx d : Addr} {ox od : Obj} {ns : List Nd} {fs : List (Str × Value)} {NP : Str → Int} {SU : Str → List Str} {env : Env} {outer : List Env}
abbrev WL (nd sn its st : Addr) (on os : Obj) (frs : List SFr) (c1 c2 : Nat) (pre : Led) (tail : Led) : Led :=
  (nd, on) :: (sn, os) :: (its, listO (frs.map fun f => .ref f.mw) c2) :: (st, listO (frs.map fun f => .str f.key f.kt) c1) :: ((frsL frs ++ pre) ++ tail)
theorem cycle_spec {Q : Value → Loc → Led → Prop} (F : Frm C env outer) (R : Room C 4) (hf : FieldsO fs ox) (hl : (fs.find? fun p => decide (p.1 = Str.ofString "_node2info")).map (·.2) = some (.ref d)) (hsys : (d == sysModules) = false) (B : Bd C.W.w ns od NP SU)
    (hsu : ∀ k j, j ∈ SU k → j ∈ keysOf ns) (htr : ∀ a b c, b ∈ SU a → c ∈ SU b → c = a ∨ c ∈ SU a) (hir : ∀ a, a ∉ SU a) (hz : ns.length ≤ 500) (hs : ∀ k, (SU k).length ≤ 20)
    (h0 : (∀ a ∈ keysOf ns, ∀ b ∈ SU a, a ∉ SU b) → Q .none m (pre ++ (SL x dx d ox od ns ++ post)))
    (h1 : ∀ l vs c, vs ≠ [] → vs.length ≤ 1000 → (∃ a b, b ∈ SU a ∧ a ∈ SU b) → Q (.ref l) m ((l, listO vs c) :: (pre ++ (SL x dx d ox od ns ++ post)))) :
    T C m (pre ++ (SL x dx d ox od ns ++ post)) (call (.ref 163) [.ref x]) Q := by
  refine' r_callDefFX (binds := [("self", .ref x)]) (k := 3) F ?R ?ho ?hcd ?hbind ?hloc ?hco ?hgen ?hk fun β' L' up R' back FF => ?_
  (case R => walk_at "room")
  (case ho => k_is)
  (case hcd => k_is)
  (case hbind => exact rfl)
  (case hloc => exact rfl)
  (case hco => exact rfl)
  (case hgen => exact rfl)
  (case hk => exact rfl)
  show T _ _ (pre ++ (SL x dx d ox od ns ++ post)) _ _
  generalize hE : (fun e s'' => wpAny (Mo C.W) (C.A.deeper _) (leaving _ e) (fun _ s3 => C.E e s3) (fun e' s3 => C.E e' s3) s'') = E0
  generalize hA : C.A.deeper (envOfC _ _ L' 163 _) = A0 at FF R'
  with_reducible refine r_consQ fun QQ hQQ => ?_
  refine r_Assign ?_
  refine r_Attr ?_
  refine r_local rfl rfl rfl rfl ?_
  refine r_getD hSx hSdx hf hl rfl ?_
  refine r_store rfl rfl rfl ?_
  with_reducible refine leafN (by assumption) ?_
  with_reducible refine r_consQ fun QQ hQQ => ?_
  refine r_Assign ?_
  with_reducible refine r_List ?_
  with_reducible refine r_argNil ?_
  refine r_newList (Nat.le_of_ble_eq_true rfl) ?_; intro st
  refine r_store rfl rfl rfl ?_
  with_reducible refine leafN (by assumption) ?_
  with_reducible refine r_consQ fun QQ hQQ => ?_
  refine r_Assign ?_
  with_reducible refine r_List ?_
  with_reducible refine r_argNil ?_
  refine r_newList (Nat.le_of_ble_eq_true rfl) ?_; intro its
  refine r_store rfl rfl rfl ?_
  with_reducible refine leafN (by assumption) ?_
  with_reducible refine r_consQ fun QQ hQQ => ?_
  refine r_Assign ?_
  refine r_Call ?_
  (refine' r_builtin rfl rfl rfl rfl ?e ?hv ?hn ?_; (case e => k_is); (case hv => boot_by_name); (case hn => decide))
  refine r_cwT0 ?_
  refine r_newSet (strKind PG C.W.w) fun sn os0 hos0 => ?_
  refine r_store rfl rfl rfl ?_
  with_reducible refine leafN (by assumption) ?_
  with_reducible refine r_consQ fun QQ hQQ => ?_
  refine r_Assign ?_
  refine r_Dict0 fun nd hnd0 => ?_
  refine r_store rfl rfl rfl ?_
  with_reducible refine leafN (by assumption) ?_
  with_reducible refine r_consQ fun QQ hQQ => ?_
  refine r_perm (led' := WL nd sn its st { cls := .type "dict", data := .dict #[] } os0 [] 0 0 pre (SL x dx d ox od ns ++ post)) ?_ (by simp [WL, frsL_nil])
  have D0 : DfOk C.W.w ns SU [] (fun _ => 0) (fun _ => false) none { cls := .type "dict", data := .dict #[] } os0 :=
    ⟨Dfs.start, by simp, ⟨[], dictO_new, rfl, by simp⟩, ⟨0, hos0, Nat.zero_le _⟩, fun k h => by simp at h⟩
  have hkl : (kvsOf ns).length = (keysOf ns).length := by simp
  refine r_ForIt ?_
  refine r_local rfl rfl rfl rfl ?_
  refine r_iterDict R'.h (hSd (pre := _ :: _ :: _ :: _ :: (frsL [] ++ pre))) B.dk hsys fun It ep oi hne hDi hIt => ?_
  obtain ⟨J1, hJ1⟩ : ∃ J1 : Nat → Loc → Led → Prop, ∀ i m' l', J1 i m' l' ↔ (Ex6 fun on os c1 c2 tk S => A8 (l' = WL nd sn its st on os [] c1 c2 pre (SL x dx d ox od ns ++ post)) (DfOk C.W.w ns SU [] tk S none on os) ((∀ k ∈ (keysOf ns).take i, S k = true)) (m' "n2i" = some (.ref d)) (m' "stack" = some (.ref st)) (m' "itstack" = some (.ref its)) (m' "seen" = some (.ref sn)) (m' "node2stacki" = some (.ref nd))) := ⟨_, fun _ _ _ => Iff.rfl⟩
  refine ⟨It, (kvsOf ns).length, _, _, _, oi, WL nd sn its st { cls := .type "dict", data := .dict #[] } os0 [] 0 0 pre (SL x dx d ox od ns ++ post), J1, rfl, rfl, (hIt β' L' E0 (fun a o e => ⟨o.slots, e⟩)).it, hDi, ?_, ?_, ?_, ?_⟩
  · intro i m' l' hj
    obtain ⟨on, os, c1, c2, tk, S, rfl, _⟩ := (hJ1 _ _ _).mp hj
    exact hSd (pre := _ :: _ :: _ :: _ :: (frsL [] ++ pre))
  · exact (hJ1 _ _ _).mpr ⟨_, os0, 0, 0, _, _, rfl, D0, by simp, by walk_at "look", by walk_at "look", by walk_at "look", by walk_at "look", by walk_at "look"⟩
  · rintro E3 i v o3 ex m' l' hi ⟨⟨k, vx, hk, hkv⟩, rfl⟩ _ hj
    obtain ⟨on, os, c1, c2, tk, S, rfl, D, hseen, e1, e2, e3, e4, e5⟩ := (hJ1 _ _ _).mp hj
    obtain ⟨u5, rfl⟩ := Value.isStrOf_shape hkv
    refine r_letName (r_asName ?_)
    refine r_store rfl rfl rfl ?_
    with_reducible refine r_consQ fun QQ hQQ => ?_
    refine r_If ?_
    with_reducible refine r_isCmp ?_
    refine r_local rfl rfl rfl rfl ?_
    (refine' r_local rfl rfl rfl ?hv ?_; (case hv => walk_at "look"))
    obtain ⟨c0, hset0, hc0⟩ := id D.ds
    refine r_inSet (Has.tail (Has.tail Has.head)) hset0 (strKind_is _ _ _ _) rfl ?_
    with_reducible refine r_tBool ?_
    have hki : (keysOf ns)[i]? = some k := by
      have := hk
      rw [List.getElem?_map] at this ⊢
      cases hn : ns[i]? with
      | none => rw [hn] at this; cases this
      | some n => rw [hn] at this; simp at this; simp [this.1]
    have hkm : k ∈ keysOf ns := List.mem_of_getElem? hki
    have htk1 : ∀ {S' : Str → Bool}, (∀ j ∈ (keysOf ns).take i, S' j = true) → S' k = true → ∀ j ∈ (keysOf ns).take (i + 1), S' j = true := fun h1 h2 j hj => by
      rw [List.take_add_one, hki] at hj
      rcases List.mem_append.mp hj with hj | hj
      · exact h1 j hj
      · simp at hj; rw [hj]; exact h2
    refine iteB (fun hb => ?_) (fun hb => ?_)
    · with_reducible refine r_consQ fun QQ hQQ => ?_
      with_reducible refine r_Continue ?_
      with_reducible refine leafC (by assumption) ?_
      with_reducible refine leafC (by assumption) ?_
      exact ⟨_, .refl _, (hJ1 _ _ _).mpr ⟨on, os, c1, c2, tk, S, rfl, D, htk1 hseen hb, by walk_at "look", by walk_at "look", by walk_at "look", by walk_at "look", by walk_at "look"⟩⟩
    with_reducible refine r_nil ?_
    with_reducible refine leafN (by assumption) ?_
    with_reducible refine r_consQ fun QQ hQQ => ?_
    obtain ⟨J2, hJ2⟩ : ∃ J2 : Nat → Loc → Led → Prop, ∀ n m2 l2, J2 n m2 l2 ↔ (Ex9 fun frs on os c1 c2 tk S nk nt => A13 (n = left SU tk (keysOf ns)) (l2 = (It, o3) :: WL nd sn its st on os frs c1 c2 pre (SL x dx d ox od ns ++ post)) (DfOk C.W.w ns SU frs tk S (some nk) on os) ((∀ s0 t, kysOf frs = s0 ++ [t] → nk ∈ SU t)) (nk ∈ keysOf ns) ((∀ j ∈ (keysOf ns).take i, S j = true)) ((S k = true ∨ nk = k)) (m2 "node" = some (.str nk nt)) (m2 "n2i" = some (.ref d)) (m2 "stack" = some (.ref st)) (m2 "itstack" = some (.ref its)) (m2 "seen" = some (.ref sn)) (m2 "node2stacki" = some (.ref nd))) := ⟨_, fun _ _ _ => Iff.rfl⟩
    refine r_While J2 (left SU tk (keysOf ns)) ?_ ?_
    · exact (hJ2 _ _ _).mpr ⟨[], on, os, c1, c2, tk, S, k, u5, rfl, rfl, ⟨D.D.re k, D.fr, D.dn, D.ds, D.sk⟩, fun s0 t e => by simp at e, hkm, hseen, .inr rfl, by walk_at "look", by walk_at "look", by walk_at "look", by walk_at "look", by walk_at "look", by walk_at "look"⟩
    clear D hset0 hc0 c0 hb hseen e1 e2 e3 e4 e5
    intro E4 nn m2 l2 hj
    obtain ⟨frs, on, os, c1, c2, tk, S, nk, nt, rfl, rfl, D, hnx, hnk, hseen, hSk, g1, g2, g3, g4, g5, g6⟩ := (hJ2 _ _ _).mp hj
    skip
    refine r_isPlain ?_
    with_reducible refine r_bool ?_
    with_reducible refine r_tBool ?_
    refine ifT ?_
    obtain ⟨c0, hset0, hc0⟩ := id D.ds
    obtain ⟨kvs, hkv1, hkv2, hkv3⟩ := id D.dn
    have hkvl : kvs.length = frs.length := by have := congrArg List.length hkv2; simpa using this
    have hfl : frs.length ≤ 500 := by
      have h1 : (kysOf frs).length ≤ (keysOf ns).length := nodup_le D.D.nd fun a ha => D.sk a (D.D.seen a ha)
      simp at h1
      omega
    obtain ⟨MM, hMM⟩ : ∃ MM : Loc → Led → Prop, ∀ m3 l', MM m3 l' ↔ (Ex6 fun frs on os c1 c2 S => A9 (l' = (It, o3) :: WL nd sn its st on os frs c1 c2 pre (SL x dx d ox od ns ++ post)) (DfOk C.W.w ns SU frs tk S none on os) ((∀ j ∈ (keysOf ns).take i, S j = true)) (S k = true) (m3 "n2i" = some (.ref d)) (m3 "stack" = some (.ref st)) (m3 "itstack" = some (.ref its)) (m3 "seen" = some (.ref sn)) (m3 "node2stacki" = some (.ref nd))) := ⟨_, fun _ _ => Iff.rfl⟩
    refine r_cons (r_postP (T.mono (Q := fun f m3 l3 => ∃ l', List.Perm l' l3 ∧ ((∃ v, f = .ret v ∧ ∃ l4, List.Sublist l4 l' ∧ Q v m l4) ∨ (f = .next ∧ MM m3 l'))) ?_ fun f m3 l3 ⟨l', hp, hmid⟩ => ⟨l', hp, ?_⟩))
    · refine r_If ?_
      with_reducible refine r_isCmp ?_
      (refine' r_local rfl rfl rfl ?hv ?_; (case hv => walk_at "look"))
      (refine' r_local rfl rfl rfl ?hv ?_; (case hv => walk_at "look"))
      refine r_inSet (Has.tail (Has.tail Has.head)) hset0 (strKind_is _ _ _ _) rfl ?_
      with_reducible refine r_tBool ?_
      refine iteB (fun hb => ?_) (fun hb => ?_)
      · with_reducible refine r_consQ fun QQ hQQ => ?_
        refine r_If ?_
        with_reducible refine r_isCmp ?_
        (refine' r_local rfl rfl rfl ?hv ?_; (case hv => walk_at "look"))
        (refine' r_local rfl rfl rfl ?hv ?_; (case hv => walk_at "look"))
        refine r_dIn (Has.tail Has.head) hkv1 hnd0 (strKind_is _ _ _ _) ?_
        with_reducible refine r_tBool ?_
        rw [valueAt_isSome, hkv2]
        refine iteB (fun hb2 => ?_) (fun hb2 => ?_)
        · have hon : nk ∈ kysOf frs := by simpa using hb2
          obtain ⟨vv, hvv⟩ : ∃ vv, valueAt kvs nk = some vv := Option.isSome_iff_exists.mp (by rw [valueAt_isSome, hkv2]; simpa using hon)
          obtain ⟨ii, ti, rfl⟩ : ∃ i t, vv = .int i t := by
            unfold valueAt at hvv
            obtain ⟨p, hp, e⟩ := Option.map_eq_some_iff.mp hvv
            obtain ⟨i2, t2, e2⟩ := hkv3 p (List.mem_of_find?_eq_some hp)
            exact ⟨i2, t2, e.symm.trans e2⟩
          with_reducible refine r_consQ fun QQ hQQ => ?_
          with_reducible refine r_Ret ?_
          with_reducible refine r_BinOp ?_
          with_reducible refine r_Sub ?_
          (refine' r_local rfl rfl rfl ?hv ?_; (case hv => walk_at "look"))
          with_reducible refine r_Slice ?_
          with_reducible refine r_partSome ?_
          with_reducible refine r_Sub ?_
          (refine' r_local rfl rfl rfl ?hv ?_; (case hv => walk_at "look"))
          (refine' r_local rfl rfl rfl ?hv ?_; (case hv => walk_at "look"))
          refine r_dItem (Has.tail Has.head) hkv1 (strKind_is _ _ _ _) hvv ?_
          with_reducible refine r_partNone ?_
          with_reducible refine r_partNone ?_
          intro asl
          refine r_sliceList (lo := some ii) (hi := none) (Has.tail (Has.tail (Has.tail (Has.tail (Has.tail Has.head))))) Has.head (.int _ _) .none (by rw [sizeLine_eq]; simp; omega) fun a2 => ?_
          with_reducible refine r_List ?_
          refine r_argCons ?_
          (refine' r_local rfl rfl rfl ?hv ?_; (case hv => walk_at "look"))
          with_reducible refine r_argNil ?_
          refine r_newList (Nat.le_of_ble_eq_true rfl) ?_; intro a3
          refine r_addL (Has.tail Has.head) Has.head (by
            have := slicePick_size_le (frs.map fun f => Value.str f.key f.kt).toArray (some ii) none none
            rw [sizeLine_eq]; simp at this ⊢; omega) fun a4 => ?_
          with_reducible refine leafR (by assumption) ?_
          with_reducible refine leafR (by assumption) ?_
          exact ⟨_, .refl _, .inl ⟨_, rfl, _, .cons₂ _ (.cons _ (.cons _ (.cons _ (.cons _ (.cons _ (.cons _ (.cons _ (.cons _ ((List.sublist_append_right (frsL frs) pre).append_right _))))))))), h1 a4 _ _ (by simp) (by have := slicePick_size_le (frs.map fun f => Value.str f.key f.kt).toArray (some ii) none none; simp at this ⊢; omega) (D.D.cycle hon hnx hir)⟩⟩
        · with_reducible refine r_nil ?_
          with_reducible refine leafN (by assumption) ?_
          with_reducible refine r_nil ?_
          have hon : nk ∉ kysOf frs := by simpa using hb2
          refine ⟨_, .refl _, .inr ⟨rfl, (hMM _ _).mpr ⟨frs, on, os, c1, c2, S, rfl, ⟨D.D.skip hb hon, D.fr, D.dn, D.ds, D.sk⟩, hseen, hSk.elim id fun e => e ▸ hb, by walk_at "look", by walk_at "look", by walk_at "look", by walk_at "look", by walk_at "look"⟩⟩⟩
      · obtain ⟨n, hn, hny⟩ := mem_key hnk
        have hva : valueAt (kvsOf ns) nk = some (.ref n.a) := by rw [← hny]; exact valueAt_kvs B.nd hn
        have hnst : nk ∉ kysOf frs := fun q => by rw [D.D.seen nk q] at hb; cases hb
        have hfm := filter_more hnk hb
        have hfl2 := List.length_filter_le (fun k => S k || decide (k = nk)) (keysOf ns)
        have hkl3 : (keysOf ns).length = ns.length := by simp
        with_reducible refine r_consQ fun QQ hQQ => ?_
        refine r_Expr ?_
        refine r_MCall ?_
        (refine' r_local rfl rfl rfl ?hv ?_; (case hv => walk_at "look"))
        refine _root_.Mine.r_gmAdd (Has.tail (Has.tail Has.head)) hset0 ?_
        refine r_cwB ?_
        refine r_argCons ?_
        (refine' r_local rfl rfl rfl ?hv ?_; (case hv => walk_at "look"))
        with_reducible refine r_argNil ?_
        refine r_setAdd (pre := [(It, o3), (nd, on)]) rfl hset0 (strKind_is _ _ _ _) rfl (by show c0 + 1 < 4096; omega) fun os' n' hn' hset' => ?_
        with_reducible refine leafN (by assumption) ?_
        with_reducible refine r_consQ fun QQ hQQ => ?_
        refine r_Expr ?_
        refine r_MCall ?_
        (refine' r_local rfl rfl rfl ?hv ?_; (case hv => walk_at "look"))
        refine r_gmAppend (Has.tail (Has.tail (Has.tail Has.head))) ?_
        refine r_cwB ?_
        refine r_argCons ?_
        refine r_Attr ?_
        refine r_Call ?_
        (refine' r_builtin rfl rfl rfl rfl ?e ?hv ?hn ?_; (case e => k_is); (case hv => boot_by_name); (case hn => decide))
        refine r_cwB ?_
        refine r_argCons ?_
        refine r_Attr ?_
        with_reducible refine r_Sub ?_
        (refine' r_local rfl rfl rfl ?hv ?_; (case hv => walk_at "look"))
        (refine' r_local rfl rfl rfl ?hv ?_; (case hv => walk_at "look"))
        refine r_dItem (hSd (pre := _ :: _ :: _ :: _ :: _ :: (frsL frs ++ pre))) B.dk (strKind_is _ _ _ _) hva ?_
        refine r_getN2 (hNa (pre := _ :: _ :: _ :: _ :: _ :: (frsL frs ++ pre)) hn) (hNdx (pre := _ :: _ :: _ :: _ :: _ :: (frsL frs ++ pre)) hn) rfl ?_
        with_reducible refine r_argNil ?_
        refine r_iterB (hNl (pre := _ :: _ :: _ :: _ :: _ :: (frsL frs ++ pre)) hn) fun it hne2 => ?_
        refine r_nextAttr Has.head fun mw => ?_
        with_reducible refine r_argNil ?_
        refine r_append (pre := [(mw, mwO it), (it, liO n.l 0), (It, o3), (nd, on), (sn, os')]) rfl (by rw [sizeLine_eq]; simp; omega) fun c3 => ?_
        with_reducible refine leafN (by assumption) ?_
        with_reducible refine r_consQ fun QQ hQQ => ?_
        refine r_AssignSub ?_
        refine r_Call ?_
        (refine' r_builtin rfl rfl rfl rfl ?e ?hv ?hn ?_; (case e => k_is); (case hv => boot_by_name); (case hn => decide))
        refine r_cwB ?_
        refine r_argCons ?_
        (refine' r_local rfl rfl rfl ?hv ?_; (case hv => walk_at "look"))
        with_reducible refine r_argNil ?_
        refine r_lenList (Has.tail (Has.tail (Has.tail (Has.tail (Has.tail (Has.tail Has.head)))))) (by simp; omega) fun t3 => ?_
        (refine' r_local rfl rfl rfl ?hv ?_; (case hv => walk_at "look"))
        (refine' r_local rfl rfl rfl ?hv ?_; (case hv => walk_at "look"))
        refine r_dSetItem (pre := [(mw, mwO it), (it, liO n.l 0), (It, o3)]) rfl hkv1 (strKind_is _ _ _ _) (by rw [sizeLine_eq]; omega) fun on' hon' => ?_
        with_reducible refine leafN (by assumption) ?_
        with_reducible refine r_consQ fun QQ hQQ => ?_
        refine r_Expr ?_
        refine r_MCall ?_
        (refine' r_local rfl rfl rfl ?hv ?_; (case hv => walk_at "look"))
        refine r_gmAppend (Has.tail (Has.tail (Has.tail (Has.tail (Has.tail (Has.tail Has.head)))))) ?_
        refine r_cwB ?_
        refine r_argCons ?_
        (refine' r_local rfl rfl rfl ?hv ?_; (case hv => walk_at "look"))
        with_reducible refine r_argNil ?_
        refine r_append (pre := [(mw, mwO it), (it, liO n.l 0), (It, o3), (nd, on'), (sn, os'), (its, listO ((frs.map fun f => .ref f.mw) ++ [.ref mw]) c3)]) rfl (by rw [sizeLine_eq]; simp; omega) fun c4 => ?_
        with_reducible refine leafN (by assumption) ?_
        with_reducible refine r_nil ?_
        rw [stored_fresh (by rw [hkv2]; exact hnst)] at hon'
        refine ⟨(It, o3) :: WL nd sn its st on' os' (frs ++ [⟨nk, nt, mw, it, liO n.l 0, n.l⟩]) c4 c3 pre (SL x dx d ox od ns ++ post), ?_, .inr ⟨rfl, (hMM _ _).mpr ⟨frs ++ [⟨nk, nt, mw, it, liO n.l 0, n.l⟩], on', os', c4, c3, _, rfl, ⟨?_, ?_, ⟨_, hon', ?_, ?_⟩, ⟨n', hset', by omega⟩, ?_⟩, fun j hj => by simp [hseen j hj], hSk.elim (fun e => by simp [e]) (fun e => by simp [e]), by walk_at "look", by walk_at "look", by walk_at "look", by walk_at "look", by walk_at "look"⟩⟩⟩
        · have hP := List.perm_append_comm_assoc ((It, o3) :: (nd, on') :: (sn, os') :: (its, listO ((frs.map fun f => .ref f.mw) ++ [.ref mw]) c3) :: (st, listO ((frs.map fun f => .str f.key f.kt) ++ [.str nk nt]) c4) :: frsL frs) [(mw, mwO it), (it, liO n.l 0)] (pre ++ (SL x dx d ox od ns ++ post))
          simpa [WL, frsL_snoc] using hP
        · have := D.D.push hb hnx htr
          simpa using this
        · intro f hf'
          rcases List.mem_append.mp hf' with hf' | hf'
          · exact D.fr f hf'
          · simp only [List.mem_singleton] at hf'
            subst hf'
            refine ⟨n, hn, hny, rfl, ?_⟩
            show LiO n.l (tk nk) (liO n.l 0)
            rw [D.D.un nk hb]
            exact ⟨rfl, rfl⟩
        · simp [hkv2]
        · intro p hp
          rcases List.mem_append.mp hp with hp | hp
          · exact hkv3 p hp
          · simp only [List.mem_singleton] at hp
            subst hp
            exact ⟨_, _, rfl⟩
        · intro j hj
          simp only [Bool.or_eq_true, decide_eq_true_eq] at hj
          exact hj.elim (D.sk j) fun e => e ▸ hnk
    · rcases hmid with ⟨v, rfl, l4, hl4, hq⟩ | ⟨rfl, hmm⟩
      · refine Sq.ret (Turn.ret (leafR (by assumption) ?_))
        dsimp only
        refine leafR (by assumption) ?_
        exact ⟨l4, hl4, hq⟩
      obtain ⟨frs, on, os, c1, c2, S, rfl, D, hseen, hSk, g2, g3, g4, g5, g6⟩ := (hMM _ _).mp hmm
      refine Sq.next ?_
      with_reducible refine r_consQ fun QQ hQQ => ?_
      obtain ⟨J3, hJ3⟩ : ∃ J3 : Nat → Loc → Led → Prop, ∀ n m4 l4, J3 n m4 l4 ↔ (Ex5 fun frs on os c1 c2 => A8 (n = frs.length) (l4 = (It, o3) :: WL nd sn its st on os frs c1 c2 pre (SL x dx d ox od ns ++ post)) (DfOk C.W.w ns SU frs tk S none on os) (m4 "n2i" = some (.ref d)) (m4 "stack" = some (.ref st)) (m4 "itstack" = some (.ref its)) (m4 "seen" = some (.ref sn)) (m4 "node2stacki" = some (.ref nd))) := ⟨_, fun _ _ _ => Iff.rfl⟩
      refine r_While J3 frs.length ((hJ3 _ _ _).mpr ⟨frs, on, os, c1, c2, rfl, rfl, D, g2, g3, g4, g5, g6⟩) ?_
      clear D g1 g2 g3 g4 g5 g6 hp hset0 hc0 hkv1 hkv2 hkv3 hkvl hfl
      intro E5 n5 m5 l5 hj
      obtain ⟨frs, on, os, c1, c2, rfl, rfl, D, g2, g3, g4, g5, g6⟩ := (hJ3 _ _ _).mp hj
      obtain ⟨kvs, hkv1, hkv2, hkv3⟩ := id D.dn
      have hkvl : kvs.length = frs.length := by have := congrArg List.length hkv2; simpa using this
      have hfl : frs.length ≤ 500 := by
        have h1 : (kysOf frs).length ≤ (keysOf ns).length := nodup_le D.D.nd fun a ha => D.sk a (D.D.seen a ha)
        simp at h1
        omega
      refine r_isPlain ?_
      (refine' r_local rfl rfl rfl ?hv ?_; (case hv => walk_at "look"))
      refine r_truthyL (Has.tail (Has.tail (Has.tail (Has.tail Has.head)))) (by simp; omega) ?_
      refine iteB (fun hb => ?_) (fun hb => ?_)
      · obtain ⟨fr0, f, rfl⟩ : ∃ fr0 f, frs = fr0 ++ [f] := by
          rcases List.eq_nil_or_concat frs with e | ⟨a, b, e⟩
          · rw [e] at hb; simp at hb
          · exact ⟨a, b, by rw [e]; simp⟩
        obtain ⟨n, hn, hny, hnl, hLi⟩ := D.fr f (by simp)
        have hsv := B.su n hn
        rw [hny] at hsv
        have hsl := strsAre_len hsv
        with_reducible refine r_consQ fun QQ hQQ => ?_
        refine' r_TryStop (FF E5) (fun m6 l6 => m6 = m5 ∧ (SU f.key).length ≤ tk f.key ∧ l6 = ((It, o3) :: (nd, on) :: (sn, os) :: (its, listO ((fr0 ++ [f]).map fun f => .ref f.mw) c2) :: (st, listO ((fr0 ++ [f]).map fun f => .str f.key f.kt) c1) :: (frsL fr0 ++ [(f.mw, mwO f.it)])) ++ (pre ++ (SL x dx d ox od ns ++ post))) ?_ ?_ rfl rfl rfl rfl ?kst
        (case kst => k_is)
        · have hled : (It, o3) :: WL nd sn its st on os (fr0 ++ [f]) c1 c2 pre (SL x dx d ox od ns ++ post) = ((It, o3) :: (nd, on) :: (sn, os) :: (its, listO ((fr0 ++ [f]).map fun f => .ref f.mw) c2) :: (st, listO ((fr0 ++ [f]).map fun f => .str f.key f.kt) c1) :: (frsL fr0 ++ [(f.mw, mwO f.it)])) ++ (f.it, f.oi) :: (pre ++ (SL x dx d ox od ns ++ post)) := by
            simp [WL, frsL_snoc]
          have hmw : ∀ {C' : Cx}, Has C' ((It, o3) :: WL nd sn its st on os (fr0 ++ [f]) c1 c2 pre (SL x dx d ox od ns ++ post)) f.mw (mwO f.it) := .inl (by simp [WL, frsL_snoc])
          have hnl2 : ∀ {C' : Cx}, Has C' ((It, o3) :: WL nd sn its st on os (fr0 ++ [f]) c1 c2 pre (SL x dx d ox od ns ++ post)) f.l (listO n.sv n.sc) := fun {C'} => by
            rw [← hnl]; exact hNl (C := C') (pre := _ :: _ :: _ :: _ :: _ :: (frsL (fr0 ++ [f]) ++ pre)) hn
          with_reducible refine r_consQ fun QQ hQQ => ?_
          refine r_Assign ?_
          refine r_CallE ?_
          with_reducible refine r_Sub ?_
          (refine' r_local rfl rfl rfl ?hv ?_; (case hv => walk_at "look"))
          with_reducible refine r_Unary ?_
          with_reducible refine r_int fun zt => ?_
          with_reducible refine r_neg fun zt => ?_
          refine' r_itemListNeg (x := .ref f.mw) ?hl ?h0 ?h1 ?h2 ?hx ?_
          (case hl => exact Has.tail (Has.tail (Has.tail Has.head)))
          (case h0 => decide)
          (case h1 => simp; omega)
          (case h2 => decide)
          (case hx => rw [show ((-1 : Int) + (((fr0 ++ [f]).map fun f => Value.ref f.mw).length : Int)).toNat = fr0.length from by simp; omega]; simp)
          refine r_cwMw hmw ?_
          by_cases hlt : tk f.key < (SU f.key).length
          · obtain ⟨bb, hbb⟩ : ∃ bb, (SU f.key)[tk f.key]? = some bb := ⟨_, List.getElem?_eq_getElem hlt⟩
            obtain ⟨tb, hvb⟩ := strsAre_get hsv hbb
            refine r_mwItem hmw hled hLi hnl2 hvb fun o' ho' => ?_
            refine r_store rfl rfl rfl ?_
            with_reducible refine leafN (by assumption) ?_
            with_reducible refine r_consQ fun QQ hQQ => ?_
            with_reducible refine r_Break ?_
            with_reducible refine leafB (by assumption) ?_
            with_reducible refine leafB (by assumption) ?_
            have hD := D.D
            rw [show kysOf (fr0 ++ [f]) = kysOf fr0 ++ [f.key] from by simp] at hD
            have hD2 := hD.next hbb
            have hfk : f.key ∈ keysOf ns := by rw [← hny]; exact List.mem_map_of_mem hn
            have hbk : bb ∈ SU f.key := List.mem_of_getElem? hbb
            have hfn : ∀ g ∈ fr0, g.key ≠ f.key := fun g hg e => by
              have h5 := hD.nd
              rw [List.nodup_append] at h5
              exact h5.2.2 g.key (List.mem_map_of_mem hg) f.key (by simp) e
            refine Turn.brk (leafN (by assumption) ?_)
            refine r_nil ?_
            refine Turn.next ((It, o3) :: WL nd sn its st on os (fr0 ++ [{ f with oi := o' }]) c1 c2 pre (SL x dx d ox od ns ++ post)) (left SU (fun k => if k = f.key then tk f.key + 1 else tk k) (keysOf ns)) ?_ (left_lt hfk hlt) ((hJ2 _ _ _).mpr ⟨fr0 ++ [{ f with oi := o' }], on, os, c1, c2, _, S, bb, tb, rfl, rfl, ⟨?_, ?_, ?_, D.ds, D.sk⟩, ?_, hsu _ _ hbk, hseen, .inl hSk, by walk_at "look", by walk_at "look", by walk_at "look", by walk_at "look", by walk_at "look", by walk_at "look"⟩)
            · simp [WL, frsL_snoc]
            · simpa using hD2
            · intro g hg
              rcases List.mem_append.mp hg with hg | hg
              · obtain ⟨n2, h2, h3, h4, h5⟩ := D.fr g (by simp [hg])
                exact ⟨n2, h2, h3, h4, by rw [if_neg (hfn g hg)]; exact h5⟩
              · simp only [List.mem_singleton] at hg
                subst hg
                exact ⟨n, hn, hny, hnl, by rw [if_pos rfl]; exact ho'⟩
            · exact ⟨kvs, hkv1, by rw [hkv2]; simp, hkv3⟩
            · intro s0 t e
              have : s0 ++ [t] = kysOf fr0 ++ [f.key] := by rw [← e]; simp
              have h5 := (List.append_inj' this rfl).2
              simp at h5
              rw [h5]; exact hbk
          · have hge : (SU f.key).length ≤ tk f.key := by omega
            refine r_mwEnd R'.h hmw hled hLi hnl2 (by rw [hsl]; exact hge) ?_
            exact ⟨rfl, hge, rfl⟩
        · rintro ee E6 m6 l6 ⟨rfl, hge, rfl⟩
          have hvv : (valueAt kvs f.key).isSome = true := by rw [valueAt_isSome, hkv2]; simp
          with_reducible refine r_consQ fun QQ hQQ => ?_
          refine r_Delete ?_
          (refine' r_local rfl rfl rfl ?hv ?_; (case hv => walk_at "look"))
          refine r_MCall ?_
          (refine' r_local rfl rfl rfl ?hv ?_; (case hv => walk_at "look"))
          refine r_gmPop (Has.tail (Has.tail (Has.tail (Has.tail Has.head)))) ?_
          refine r_cwB0 ?_
          refine r_pop (vs := fr0.map fun f => .str f.key f.kt) (y := .str f.key f.kt) (n := c1) (pre := [(It, o3), (nd, on), (sn, os), (its, listO ((fr0 ++ [f]).map fun f => .ref f.mw) c2)]) (post := (frsL fr0 ++ [(f.mw, mwO f.it)]) ++ (pre ++ (SL x dx d ox od ns ++ post))) (by simp) (by rw [sizeLine_eq]; simp at hfl ⊢; omega) fun c3 => ?_
          refine r_dDel (pre := [(It, o3)]) rfl hkv1 (strKind_is _ _ _ _) (by rw [sizeLine_eq]; omega) hvv fun on' hon' => ?_
          with_reducible refine leafN (by assumption) ?_
          with_reducible refine r_consQ fun QQ hQQ => ?_
          refine r_Expr ?_
          refine r_MCall ?_
          (refine' r_local rfl rfl rfl ?hv ?_; (case hv => walk_at "look"))
          refine r_gmPop (Has.tail (Has.tail (Has.tail Has.head))) ?_
          refine r_cwB0 ?_
          refine r_pop (vs := fr0.map fun f => .ref f.mw) (y := .ref f.mw) (n := c2) (pre := [(It, o3), (nd, on'), (sn, os)]) (post := (st, listO (fr0.map fun f => .str f.key f.kt) c3) :: (frsL fr0 ++ [(f.mw, mwO f.it)]) ++ (pre ++ (SL x dx d ox od ns ++ post))) (by simp) (by rw [sizeLine_eq]; simp at hfl ⊢; omega) fun c4 => ?_
          with_reducible refine leafN (by assumption) ?_
          with_reducible refine r_nil ?_
          with_reducible refine leafN (by assumption) ?_
          with_reducible refine r_nil ?_
          have hD := D.D
          rw [show kysOf (fr0 ++ [f]) = kysOf fr0 ++ [f.key] from by simp] at hD
          have hfn : f.key ∉ kysOf fr0 := fun hg => by
            have h5 := hD.nd
            rw [List.nodup_append] at h5
            exact h5.2.2 f.key hg f.key (by simp) rfl
          refine Turn.next ((It, o3) :: WL nd sn its st on' os fr0 c3 c4 pre (SL x dx d ox od ns ++ post)) fr0.length ?_ (by simp) ((hJ3 _ _ _).mpr ⟨fr0, on', os, c3, c4, rfl, rfl, ⟨hD.pop hge, fun g hg => D.fr g (by simp [hg]), ⟨_, hon', without_last (by rw [hkv2]; simp) hfn, fun p hp => hkv3 p (List.mem_filter.mp hp).1⟩, D.ds, D.sk⟩, by walk_at "look", by walk_at "look", by walk_at "look", by walk_at "look", by walk_at "look"⟩)
          simp only [WL, List.cons_append, List.append_assoc, List.nil_append]
          exact .cons₂ _ (.cons₂ _ (.cons₂ _ (.cons₂ _ (.cons₂ _ ((List.Sublist.refl (frsL fr0)).append (.cons _ (.refl _)))))))
      · have hfe : frs = [] := by simpa using hb
        subst hfe
        with_reducible refine r_consQ fun QQ hQQ => ?_
        with_reducible refine r_Break ?_
        with_reducible refine leafB (by assumption) ?_
        with_reducible refine leafB (by assumption) ?_
        refine Turn.brk (leafN (by assumption) (r_nil ?_))
        exact ⟨_, .refl _, (hJ1 _ _ _).mpr ⟨on, os, c1, c2, tk, S, rfl, D, htk1 hseen hSk, by walk_at "look", by walk_at "look", by walk_at "look", by walk_at "look", by walk_at "look"⟩⟩
  · intro E3 m' l' hj
    obtain ⟨on, os, c1, c2, tk, S, rfl, D, hseen, e1, e2, e3, e4, e5⟩ := (hJ1 _ _ _).mp hj
    with_reducible refine r_nil ?_
    with_reducible refine leafN (by assumption) ?_
    with_reducible refine r_consQ fun QQ hQQ => ?_
    with_reducible refine r_Ret ?_
    with_reducible refine r_none ?_
    with_reducible refine leafR (by assumption) ?_
    refine ⟨pre ++ (SL x dx d ox od ns ++ post), .cons _ (.cons _ (.cons _ (.cons _ (.refl _)))), h0 fun a ha b hb => ?_⟩
    rw [hkl, List.take_length] at hseen
    exact (D.D.fin a (hseen a ha) (by simp) b hb).2
end
end G8
namespace G9
open F1 G0 G1 G2 G3 G4 G5 G6 G7 G8
abbrev rdy (ns : List Nd) (NP : Str → Int) : List Str := (keysOf ns).filter fun k => decide (NP k = 0)
theorem CompEnd.nul {C : Cx} {m : Loc} {led : Led} {D L' : Addr} {Q : Value → Loc → Led → Prop} (h : Q (.ref D) m led) : CompEnd C none D L' Q m led := h
section
variable {C : Cx} {m : Loc} {pre post : Led} {x dx d : Addr} {ox od : Obj} {ns : List Nd} {a b : Int} {t1 t2 : Tok} {NP : Str → Int} {SU : Str → List Str} {env : Env} {outer : List Env}
theorem prep_spec {K : Loc → Led → Prop} {Q : Value → Loc → Led → Prop} (F : Frm C env outer) (R : Room C 6) (hf : FieldsO (fsOf d .none a b t1 t2) ox) (hsys : (d == sysModules) = false) (B : Bd C.W.w ns od NP SU)
    (hsu : ∀ k j, j ∈ SU k → j ∈ keysOf ns) (htr : ∀ a b c, b ∈ SU a → c ∈ SU b → c = a ∨ c ∈ SU a) (hir : ∀ a, a ∉ SU a) (hz : ns.length ≤ 500) (hs : ∀ k, (SU k).length ≤ 20)
    (h0 : ∀ r ox' rv rc, FieldsO (fsOf d (.ref r) a b t1 t2) ox' → StrsAre rv (rdy ns NP) → (∀ a ∈ keysOf ns, ∀ b ∈ SU a, a ∉ SU b) → Q .none m (pre ++ RL x dx d r ox' od ns rv rc post))
    (h1 : ∀ r ox' rv rc, FieldsO (fsOf d (.ref r) a b t1 t2) ox' → StrsAre rv (rdy ns NP) → (∃ a b, b ∈ SU a ∧ a ∈ SU b) → K m (pre ++ RL x dx d r ox' od ns rv rc post)) :
    T (C.e (Flown C env outer (.ref 91) (fun m1 l1 => ∃ l', (∃ l2, List.Perm l2 l1 ∧ List.Sublist l' l2) ∧ K m1 l'))) m (pre ++ (SL x dx d ox od ns ++ post)) (call (.ref 128) [.ref x]) Q := by
  refine r_postP ?_
  refine' r_callDefFX (binds := [("self", .ref x)]) (k := 5) (C := C.e _) (env := env) (outer := outer) F.onE ?R ?ho ?hcd ?hbind ?hloc ?hco ?hgen ?hk fun β' L' up R' back FF => ?_
  (case R => exact R.e)
  (case ho => k_is)
  (case hcd => k_is)
  (case hbind => exact rfl)
  (case hloc => exact rfl)
  (case hco => exact rfl)
  (case hgen => exact rfl)
  (case hk => exact rfl)
  show T _ _ (pre ++ (SL x dx d ox od ns ++ post)) _ _
  with_reducible refine r_consQ fun QQ hQQ => ?_
  refine r_If ?_
  with_reducible refine r_isCmp ?_
  refine r_Attr ?_
  refine r_local rfl rfl rfl rfl ?_
  refine r_getR hSx hSdx hf rfl rfl ?_
  with_reducible refine r_none ?_
  refine r_isnt rfl ?_
  with_reducible refine r_tBool ?_
  refine iteB (fun hb => absurd (show false = true from hb) (by decide)) (fun hb => ?_)
  with_reducible refine r_nil ?_
  with_reducible refine leafN (by assumption) ?_
  with_reducible refine r_consQ fun QQ hQQ => ?_
  refine r_AssignAttr ?_
  refine r_ListComp ?_
  refine' r_LC ?hcl ?hkd ?hnm ?_
  (case hcl => exact rfl)
  (case hkd => exact rfl)
  (case hnm => decide)
  refine r_MCall ?_
  refine r_Attr ?_
  refine r_local rfl rfl rfl rfl ?_
  refine r_getD hSx hSdx hf rfl rfl ?_
  refine r_gmDict hSd B.dk PySem.F.slot_dict_values PySem.F.type_dict_values ?_
  refine r_cwB0 ?_
  refine r_dValues hSd B.dk hsys fun vv => ?_
  refine r_iterValues R'.h Has.head (hSd (pre := _ :: pre)) B.dk fun it ep oi hne hDi hIt => ?_
  refine ⟨it, (kvsOf ns).length, fun i v ex => (∃ k, (kvsOf ns)[i]? = some (k, v)) ∧ ex = [], DiO "dict_valueiterator" d (kvsOf ns).length ep, oi, _ :: (pre ++ (SL x dx d ox od ns ++ post)), rfl, .refl _, hDi, by simp; omega, fun D L2 β2 E2 up2 => ?_⟩
  refine ⟨_, fun i ys l => A3 (l = (vv, { cls := .type "dict_values", data := .fields #[.ref d] }) :: (pre ++ (SL x dx d ox od ns ++ post))) (ys.length ≤ i) (StrsAre ys (rdy (ns.take i) NP)), hIt β2 L2 E2 up2, ?_, ?_, ?_, ?_⟩
  · rintro i ys l k2 ⟨rfl, h2, h3⟩
    exact ⟨Has.tail (hSd (pre := _ :: pre)), h2⟩
  · exact ⟨rfl, Nat.le_refl _, by simp; exact .nil⟩
  · rintro i v ex ys m2 o2 k2 l hi2 ⟨⟨k, hk⟩, rfl⟩ hS ⟨rfl, hly, hys⟩
    obtain ⟨n, hn, e⟩ : ∃ n, ns[i]? = some n ∧ (n.key, Value.ref n.a) = (k, v) := by
      rw [List.getElem?_map] at hk
      exact Option.map_eq_some_iff.mp hk
    cases e
    have hnm : n ∈ ns := List.mem_of_getElem? hn
    have hr : rdy (ns.take (i + 1)) NP = rdy (ns.take i) NP ++ (if NP n.key = 0 then [n.key] else []) := by
      rw [List.take_add_one, hn]
      simp only [rdy, keysOf, Option.toList_some, List.map_append, List.map_cons, List.map_nil, List.filter_append]
      by_cases e : NP n.key = 0 <;> simp [e]
    refine r_store rfl rfl rfl ?_
    refine r_tests1 ?_
    with_reducible refine r_isCmp ?_
    refine r_Attr ?_
    refine r_local rfl rfl rfl rfl ?_
    refine r_getN1 (hNa (pre := _ :: _ :: _ :: pre) hnm) (hNdx (pre := _ :: _ :: _ :: pre) hnm) rfl ?_
    with_reducible refine r_int fun zt => ?_
    with_reducible refine r_eqI ?_
    with_reducible refine r_tBool ?_
    refine iteB (fun hb2 => ?_) (fun hb2 => ?_)
    · refine r_Attr ?_
      refine r_local rfl rfl rfl rfl ?_
      refine r_getN0 (hNa (pre := _ :: _ :: _ :: pre) hnm) (hNdx (pre := _ :: _ :: _ :: pre) hnm) rfl ?_
      have h5 : NP n.key = 0 := by rw [← B.np n hnm]; simpa using hb2
      refine ⟨_, .refl _, rfl, by simp; omega, ?_⟩
      rw [hr, if_pos h5]
      exact strsAre_snoc hys
    · have h5 : ¬ NP n.key = 0 := by rw [← B.np n hnm]; simpa using hb2
      refine ⟨_, .refl _, rfl, by omega, ?_⟩
      rw [hr, if_neg h5, List.append_nil]
      exact hys
  · rintro ys l k2 ⟨rfl, hly, hys⟩
    rw [show (kvsOf ns).length = ns.length by simp, List.take_length] at hys
    refine ⟨(D, listO ys k2) :: (pre ++ (SL x dx d ox od ns ++ post)), .cons₂ _ (.cons _ (.refl _)), CompEnd.nul ?_⟩
    refine r_local rfl rfl rfl rfl ?_
    refine r_setR (pre := ((D, listO ys k2) :: pre) ++ [(x, insO 173 dx #[])]) (post := (d, od) :: nds ns ++ post) (hSx (pre := _ :: pre)) (by simp) hf (Nat.le_of_ble_eq_true rfl) fun o8 ho8 => ?_
    have ho9 : FieldsO (fsOf d (.ref D) a b t1 t2) o8 := ho8
    rw [show ((D, listO ys k2) :: pre) ++ [(x, insO 173 dx #[])] ++ (dx, o8) :: ((d, od) :: nds ns ++ post) = ((D, listO ys k2) :: pre) ++ (SL x dx d o8 od ns ++ post) from by simp]
    with_reducible refine leafN (by assumption) ?_
    with_reducible refine r_consQ fun QQ hQQ => ?_
    refine r_Assign ?_
    refine r_MCall ?_
    refine r_local rfl rfl rfl rfl ?_
    refine r_gmCyc (hSx (pre := _ :: pre)) (hSdx (pre := _ :: pre)) ho9 rfl ?_
    show T _ _ _ (callWith _ (Value.ref 163) [Value.ref x] _ _) _
    refine' r_cwK0 ?kf ?_
    (case kf => k_is)
    have hperm : List.Perm (pre ++ RL x dx d D o8 od ns ys k2 post) (((D, listO ys k2) :: pre) ++ (SL x dx d o8 od ns ++ post)) := by
      have := List.perm_append_comm_assoc (pre ++ SL x dx d o8 od ns) [(D, listO ys k2)] post
      simpa [RL] using this
    refine cycle_spec (pre := (D, listO ys k2) :: pre) (FF _) (by walk_at "room") ho9 rfl hsys B hsu htr hir hz hs (fun hno => ?_) (fun l vs c hvs hvl hmu => ?_)
    · refine r_store rfl rfl rfl ?_
      with_reducible refine leafN (by assumption) ?_
      with_reducible refine r_consQ fun QQ hQQ => ?_
      refine r_If ?_
      refine r_isPlain ?_
      refine r_local rfl rfl rfl rfl ?_
      with_reducible refine r_tNone ?_
      refine iteB (fun hb => absurd hb (by decide)) (fun hb => ?_)
      with_reducible refine r_nil ?_
      with_reducible refine leafN (by assumption) ?_
      with_reducible refine r_nil ?_
      exact ⟨_, .refl _, _, hperm, h0 D o8 ys k2 ho9 hys hno⟩
    · refine r_store rfl rfl rfl ?_
      with_reducible refine leafN (by assumption) ?_
      with_reducible refine r_consQ fun QQ hQQ => ?_
      refine r_If ?_
      refine r_isPlain ?_
      refine r_local rfl rfl rfl rfl ?_
      refine r_truthyL Has.head (by omega) ?_
      refine iteB (fun hb => ?_) (fun hb => absurd hb (by cases vs with | nil => exact absurd rfl hvs | cons _ _ => simp))
      with_reducible refine r_consQ fun QQ hQQ => ?_
      refine' r_RaiseOwn (cl := 91) (FF _) R'.h ?kx ?kq ?_
      (case kx => k_is)
      (case kq => kernel_rfl)
      refine r_argCons ?_
      refine r_Joined1 ?_
      with_reducible refine r_str fun zt => ?_
      refine r_argCons ?_
      refine r_local rfl rfl rfl rfl ?_
      with_reducible refine r_argNil ?_
      refine ⟨Nat.le_of_ble_eq_true rfl, fun s1 h' e P1 hx => ?_⟩
      refine leave_made (C := C) (FF (fun _ _ => True)) F up (fun m'' led'' s'' P'' => back m'' led'' s'' P'') P1 hx ?_
      exact ⟨pre ++ RL x dx d D o8 od ns ys k2 post, ⟨(l, listO vs c) :: (pre ++ RL x dx d D o8 od ns ys k2 post), hperm.cons _, List.sublist_cons_self _ _⟩, h1 D o8 ys k2 ho9 hys hmu⟩
end
end G9
namespace GA
open F1 G0 G1 G2 G3 G4 G5 G6 G7 G8 G9
section
variable {C : Cx} {m : Loc} {pre post : Led} {x dx d : Addr} {ox od : Obj} {ns : List Nd} {a b : Int} {t1 t2 : Tok} {NP : Str → Int} {SU : Str → List Str} {env : Env} {outer : List Env}
theorem prepared_spec {Q : Value → Loc → Led → Prop} (F : Frm C env outer) (R : Room C 8) (hf : FieldsO (fsOf d .none a b t1 t2) ox) (hsys : (d == sysModules) = false) (B : Bd C.W.w ns od NP SU)
    (hsu : ∀ k j, j ∈ SU k → j ∈ keysOf ns) (htr : ∀ a b c, b ∈ SU a → c ∈ SU b → c = a ∨ c ∈ SU a) (hir : ∀ a, a ∉ SU a) (hz : ns.length ≤ 500) (hs : ∀ k, (SU k).length ≤ 20)
    (h : ∀ bb r ox' rv rc, FieldsO (fsOf d (.ref r) a b t1 t2) ox' → StrsAre rv (rdy ns NP) → (bb = true → ∀ a ∈ keysOf ns, ∀ b ∈ SU a, a ∉ SU b) → (bb = false → ∃ a b, b ∈ SU a ∧ a ∈ SU b) → Q (.bool bb) m (pre ++ RL x dx d r ox' od ns rv rc post)) :
    T C m (pre ++ (SL x dx d ox od ns ++ post)) (call (.ref 320) [.ref x]) Q := by
  refine r_postP ?_
  refine' r_callDefFX (binds := [("sorter", .ref x)]) (k := 7) F ?R ?ho ?hcd ?hbind ?hloc ?hco ?hgen ?hk fun β' L' up R' back FF => ?_
  (case R => walk_at "room")
  (case ho => k_is)
  (case hcd => k_is)
  (case hbind => exact rfl)
  (case hloc => exact rfl)
  (case hco => exact rfl)
  (case hgen => exact rfl)
  (case hk => exact rfl)
  show T _ _ (pre ++ (SL x dx d ox od ns ++ post)) _ _
  generalize hE : (fun e s'' => wpAny (Mo C.W) (C.A.deeper _) (leaving _ e) (fun _ s3 => C.E e s3) (fun e' s3 => C.E e' s3) s'') = E0
  with_reducible refine r_consQ fun QQ hQQ => ?_
  refine' r_TryOwn (cl := 91) (FF _) (fun m1 l1 => ∃ l', (∃ l2, List.Perm l2 l1 ∧ List.Sublist l' l2) ∧ ∃ r ox' rv rc, l' = pre ++ RL x dx d r ox' od ns rv rc post ∧ FieldsO (fsOf d (.ref r) a b t1 t2) ox' ∧ StrsAre rv (rdy ns NP) ∧ ∃ a b, b ∈ SU a ∧ a ∈ SU b) ?_ ?_ rfl rfl rfl ?kx ?kq
  (case kx => k_is)
  (case kq => kernel_rfl)
  · with_reducible refine r_consQ fun QQ hQQ => ?_
    refine r_Expr ?_
    refine r_MCall ?_
    refine r_local rfl rfl rfl rfl ?_
    refine r_gmPrep hSx hSdx hf rfl ?_
    show T _ _ _ (callWith _ (Value.ref 128) [Value.ref x] _ _) _
    refine' r_cwK0 ?kf ?_
    (case kf => k_is)
    refine prep_spec (FF _) (by walk_at "room") hf hsys B hsu htr hir hz hs (fun r ox' rv rc h1 h2 h3 => ?_) (fun r ox' rv rc h1 h2 h3 => ?_)
    · with_reducible refine leafN (by assumption) ?_
      with_reducible refine r_nil ?_
      with_reducible refine leafN (by assumption) ?_
      with_reducible refine r_consQ fun QQ hQQ => ?_
      with_reducible refine r_Ret ?_
      with_reducible refine r_bool ?_
      with_reducible refine leafR (by assumption) ?_
      exact ⟨_, .refl _, _, .refl _, h true r ox' rv rc h1 h2 (fun _ => h3) (fun q => by cases q)⟩
    · exact ⟨r, ox', rv, rc, rfl, h1, h2, h3⟩
  · rintro e E2 m1 l1 ⟨l', ⟨l2, hp, hsub⟩, r, ox', rv, rc, rfl, h1, h2, h3⟩
    refine r_perm (r_drop ?_ hsub) hp
    with_reducible refine r_consQ fun QQ hQQ => ?_
    with_reducible refine r_Ret ?_
    with_reducible refine r_bool ?_
    with_reducible refine leafR (by assumption) ?_
    with_reducible refine leafR (by assumption) ?_
    exact ⟨_, .refl _, _, .refl _, h false r ox' rv rc h1 h2 (fun q => by cases q) (fun _ => h3)⟩
end
end GA
namespace GB
open F1 G0 G1 G2 G3 G4 G5 G6 G7 G8 G9 GA
theorem valueAt_stored {kvs : List (Str × Value)} {k j : Str} {v : Value} : valueAt (stored kvs k v) j = if j = k then some v else valueAt kvs j := by
  unfold stored
  split
  · rename_i hany
    induction kvs with
    | nil => simp at hany
    | cons p r ih =>
      unfold valueAt at ih ⊢
      rw [List.map_cons, List.find?_cons, List.find?_cons]
      by_cases e : p.1 = k
      · subst e
        by_cases ej : j = p.1
        · subst ej; simp
        · simp only [if_true, Ne.symm ej, decide_false, if_neg ej]
          by_cases hr : r.any (fun kv => decide (kv.1 = p.1)) = true
          · rw [ih hr, if_neg ej]
          · have : r.map (fun kv => if kv.1 = p.1 then (kv.1, v) else kv) = r := by
              rw [List.map_congr_left (g := id) fun q hq => ?_, List.map_id]
              rw [if_neg]
              · rfl
              · intro e2
                exact hr (List.any_eq_true.mpr ⟨q, hq, by simpa using e2⟩)
            rw [this]
      · have hr : r.any (fun kv => decide (kv.1 = k)) = true := by simpa [e] using hany
        rw [if_neg e]
        by_cases ej : p.1 = j
        · subst ej; simp [e]
        · simp only [ej, decide_false]
          exact ih hr
  · rename_i hany
    unfold valueAt
    rw [List.find?_append]
    by_cases ej : j = k
    · subst ej
      have : kvs.find? (fun kv => decide (kv.1 = j)) = none := by
        rw [List.find?_eq_none]
        intro q hq e
        exact hany (List.any_eq_true.mpr ⟨q, hq, e⟩)
      rw [this]; simp
    · simp [Ne.symm ej, if_neg ej]
section
variable {C : Cx} {m : Loc} {led : Led} {x dx : Addr} {o : Obj} {fs : List (Str × Value)}
theorem r_gaDone {expr : Bool} {Q : Value → Loc → Led → Prop} (hx : Has C led x (insO 173 dx #[])) (hdx : Has C led dx o) (hf : FieldsO fs o) (hl : (fs.find? fun p => decide (p.1 = Str.ofString "done")) = none) (h : ∀ q, Q (.ref q) m ((q, methodObj (.ref 156) (.ref x)) :: led)) : T C m led (getAttr (.ref x) "done" expr) Q := by
  refine' r_getMeth hx hdx hf ?hg ?hh ?ha ?hn ?ht ?hty ?hc hl h
  (case hg => k_is)
  (case hh => k_is)
  (case ha => k_is)
  (case hn => k_is)
  (case ht => k_is)
  (case hty => k_is)
  (case hc => decide)
end
abbrev rlL (ls : List (Addr × List Value × Nat)) : Led := ls.map fun p => (p.1, listO p.2.1 p.2.2)
abbrev rlV (ls : List (Addr × List Value × Nat)) : List Value := ls.map fun p => .ref p.1
structure RunOk (K : List Str) (SU M : Str → List Str) (MD RT NP : Str → Int) (G : Nat → List Str) (NPs : Nat → Str → Int) (N : Nat) : Prop where
  np0 : NPs 0 = NP
  step : ∀ i, i < N → dall SU (outNP (NPs i) (G i), []) (G i) = (NPs (i + 1), G (i + 1))
  ne : ∀ i, i < N → G i ≠ []
  fin : G N = []
  out : ∀ i, i < N → ∀ j y, (G i)[j]? = some y → (dall SU (outNP (NPs i) (G i), []) ((G i).take j)).1 y = -1
  sub : ∀ i, i ≤ N → ∀ k ∈ G i, k ∈ K
  len : ∀ i, i ≤ N → (G i).length ≤ 20
  rt : ∀ i, i < N → ∀ k ∈ G i, ∀ ss', ss'.Perm (M k) → OrdL false ss' → (ss' = [] ∧ RT k = madeF (MD k) 0) ∨ ∃ pre a, ss' = pre ++ [a] ∧ (∃ j, j < i ∧ a ∈ G j) ∧ RT k = madeF (MD k) (RT a)
  bd : N ≤ 20
theorem pick_last {vs : List Value} : (slicePick vs.toArray (some (-1)) none none).toList = vs.drop (vs.length - 1) := by
  rw [show (-1 : Int) = -((1 : Nat) : Int) from rfl, slicePick_last _ _ (Nat.le_refl _)]
  simp
theorem shaped_tups {ys : List Str} (h : ∀ y ∈ ys, PyData.strOk y = true) : SeqAt.shaped (.tuple (ys.map .str)) = true := by
  unfold SeqAt.shaped
  rw [PyData.canLay0, canLay_strs h, PyData.depth, depthAll_strs]
  rfl
theorem eqv_tup0 (ys : List Str) : PyData.eqv (.tuple (ys.map .str)) (.tuple []) = ys.isEmpty := by
  cases ys <;> rfl
theorem strsAre_snoc_inv {vs : List Value} {p : List Str} {a : Str} (h : StrsAre vs (p ++ [a])) : ∃ o t, vs = o ++ [.str a t] := by
  induction p generalizing vs with
  | nil => cases h with | cons _ t h => cases h; exact ⟨[], t, rfl⟩
  | cons b p ih =>
    cases h with
    | cons _ t h =>
      obtain ⟨o, t', rfl⟩ := ih h
      exact ⟨_ :: o, t', rfl⟩
theorem stored_keep {kvs : List (Str × Value)} {y k : Str} {RT : Str → Int} {t : Tok} (h : ∃ t, valueAt kvs k = some (.int (RT k) t)) : ∃ t', valueAt (stored kvs y (.int (RT y) t)) k = some (.int (RT k) t') := by
  rw [valueAt_stored]
  by_cases e : k = y
  · subst e; exact ⟨t, by rw [if_pos rfl]⟩
  · rw [if_neg e]; exact h
theorem stored_more {kvs : List (Str × Value)} {y : Str} {RT : Str → Int} {t : Tok} {g : List Str} {j : Nat} (hy : g[j]? = some y) (h : ∀ k ∈ g.take j, ∃ t, valueAt kvs k = some (.int (RT k) t)) :
    ∀ k ∈ g.take (j + 1), ∃ t', valueAt (stored kvs y (.int (RT y) t)) k = some (.int (RT k) t') := by
  intro k hk
  rcases (mem_take_succ hy).mp hk with hk | rfl
  · exact stored_keep (h k hk)
  · exact ⟨t, by rw [valueAt_stored, if_pos rfl]⟩
section
variable {C : Cx} {m : Loc} {pre post : Led} {x dx d r xd md : Addr} {ox od oxd omd : Obj} {ns : List Nd} {rv : List Value} {rc : Nat} {a : Int} {t1 t2 : Tok} {NP MD RT : Str → Int} {SU M : Str → List Str} {G : Nat → List Str} {NPs : Nat → Str → Int} {N : Nat} {xkvs mkvs : List (Str × Value)}
theorem run_spec {Q : Value → Loc → Led → Prop} (R : Room C 8) (hf : FieldsO (fsOf d (.ref r) a a t1 t2) ox) (hsys : (d == sysModules) = false) (B : Bd C.W.w ns od NP SU) (hr : StrsAre rv (G 0))
    (hsu : ∀ k j, j ∈ SU k → j ∈ keysOf ns) (hs : ∀ k, (SU k).length ≤ 20)
    (hX : Has C post xd oxd) (hXd : oxd.IsDictOf (strKind PG C.W.w) xkvs) (hXv : ∀ k ∈ keysOf ns, ∃ l vs c, valueAt xkvs k = some (.ref l) ∧ Has C post l (listO vs c) ∧ StrsAre vs (M k))
    (hok : ∀ k ∈ keysOf ns, PyData.strOk k = true) (hMl : ∀ k ∈ keysOf ns, (M k).length ≤ 20 ∧ ∀ y ∈ M k, y.length < 2 ^ 62)
    (hD : Has C post md omd) (hDd : omd.IsDictOf (strKind PG C.W.w) mkvs) (hDv : ∀ k ∈ keysOf ns, ∃ t, valueAt mkvs k = some (.int (MD k) t))
    (Z : RunOk (keysOf ns) SU M MD RT NP G NPs N)
    (h : ∀ tu ro rg og gkvs ls c ns' ox' od' rc' a' t1' t2', FieldsO (fsOf d (.ref r) a' a' t1' t2') ox' → og.IsDictOf (strKind PG C.W.w) gkvs → (∀ i, i < N → ∀ k ∈ G i, ∃ t, valueAt gkvs k = some (.int (RT k) t)) → ls.length = N →
      (∀ (i : Nat) p, ls[i]? = some p → ∃ ss, StrsAre p.2.1 ss ∧ ss.Perm (G i) ∧ sortedS ss = true) →
      Q (.ref tu) m ((tu, tupO [.ref ro, .ref rg]) :: (ro, listO (rlV ls) c) :: (rg, og) :: ((rlL ls ++ pre) ++ RL x dx d r ox' od' ns' [] rc' post))) :
    T C m (pre ++ RL x dx d r ox od ns rv rc post) (call (.ref 327) [.ref x, .ref xd, .ref md]) Q := by
  have hP : ∀ {C' : Cx} {l0 : Led} {ox1 od1 : Obj} {ns1 : List Nd} {rv1 : List Value} {rc1 : Nat} {a : Addr} {o : Obj}, C'.W = C.W → Has C post a o → Has C' (l0 ++ RL x dx d r ox1 od1 ns1 rv1 rc1 post) a o := fun e q => by
    rcases q with q | q
    · exact .inl (by simp [RL, q])
    · exact .inr (by rw [e]; exact q)
  refine' r_callDef (binds := [("sorter", .ref x), ("matched", .ref xd), ("modes", .ref md)]) (k := 7) ?R ?ho ?hcd ?hbind ?hloc ?hco ?hgen ?hk ?hcell fun A' E' β' L' R' up => ?_
  walk_at "enter"
  with_reducible refine r_consQ fun QQ hQQ => ?_
  refine r_Assign ?_
  with_reducible refine r_List ?_
  with_reducible refine r_argNil ?_
  refine r_newList (Nat.le_of_ble_eq_true rfl) fun ro => ?_
  refine r_store rfl rfl rfl ?_
  with_reducible refine leafN (by assumption) ?_
  with_reducible refine r_consQ fun QQ hQQ => ?_
  refine r_Assign ?_
  refine r_Dict0 fun rg hrg0 => ?_
  refine r_store rfl rfl rfl ?_
  with_reducible refine leafN (by assumption) ?_
  with_reducible refine r_consQ fun QQ hQQ => ?_
  refine r_Assign ?_
  refine r_MCall ?_
  refine r_local rfl rfl rfl rfl ?_
  refine r_gmReady (hSx (pre := _ :: _ :: pre)) (hSdx (pre := _ :: _ :: pre)) hf rfl ?_
  show T _ _ _ (callWith _ (Value.ref 135) [Value.ref x] _ _) _
  refine' r_cwK0 ?kf ?_
  (case kf => k_is)
  refine ready_spec (pre := _ :: _ :: pre) (by walk_at "room") hf B hr (Z.sub 0 (Nat.zero_le _)) (by have := Z.len 0 (Nat.zero_le _); omega) fun tu ns' ox' od' rc' t3 hf' B' hk' => ?_
  refine r_store rfl rfl rfl ?_
  with_reducible refine leafN (by assumption) ?_
  with_reducible refine r_consQ fun QQ hQQ => ?_
  rw [← Z.np0] at B'
  refine r_perm (led' := (tu, tupO rv) :: (ro, listO (rlV []) 0) :: (rg, { cls := .type "dict", data := .dict #[] }) :: ((rlL [] ++ pre) ++ RL x dx d r ox' od' ns' [] rc' post)) ?_ (by
    simp only [rlL, rlV, List.map_nil, List.nil_append]
    exact (List.Perm.swap _ _ _).cons _)
  obtain ⟨J, hJ⟩ : ∃ J : Nat → Loc → Led → Prop, ∀ n m' l', J n m' l' ↔ (Ex14 fun i a' tu gv og gkvs ls c ns' ox' od' rc' t1' t2' => A18 (n = N - i) (i ≤ N) (l' = (tu, tupO gv) :: (ro, listO (rlV ls) c) :: (rg, og) :: ((rlL ls ++ pre) ++ RL x dx d r ox' od' ns' [] rc' post)) (StrsAre gv (G i)) (FieldsO (fsOf d (.ref r) (a' + (G i).length) a' t1' t2') ox') (Bd C.W.w ns' od' (outNP (NPs i) (G i)) SU) (keysOf ns' = keysOf ns) (og.IsDictOf (strKind PG C.W.w) gkvs) (gkvs.length ≤ 20 * i) ((∀ j, j < i → ∀ k ∈ G j, ∃ t, valueAt gkvs k = some (.int (RT k) t))) (ls.length = i) ((∀ (j : Nat) p, ls[j]? = some p → ∃ ss, StrsAre p.2.1 ss ∧ ss.Perm (G j) ∧ sortedS ss = true)) (m' "sorter" = some (.ref x)) (m' "matched" = some (.ref xd)) (m' "modes" = some (.ref md)) (m' "rounds" = some (.ref ro)) (m' "rights" = some (.ref rg)) (m' "group" = some (.ref tu))) := ⟨_, fun _ _ _ => Iff.rfl⟩
  refine r_While J N ?_ ?_
  · exact (hJ _ _ _).mpr ⟨0, a, tu, rv, _, [], [], 0, ns', ox', od', rc', t3, t2, rfl, Nat.zero_le _, rfl, hr, hf', B', hk', dictO_new, by simp, by simp, rfl, by simp, by walk_at "look", by walk_at "look", by walk_at "look", by walk_at "look", by walk_at "look", by walk_at "look"⟩
  clear hf' B' hk' hf B hr
  intro E2 n m2 l2 hj
  obtain ⟨i, a', tu, gv, og, gkvs, ls, c, ns', ox', od', rc', t1', t2', rfl, hi, rfl, hgv, hf, B, hk, hog, hgl, hgr, hll, hls, e1, e2, e3, e4, e5, e6⟩ := (hJ _ _ _).mp hj
  have hgl2 := strsAre_len hgv
  have hGl := Z.len i hi
  with_reducible refine r_isCmp ?_
  (refine' r_local rfl rfl rfl ?hv ?_; (case hv => walk_at "look"))
  with_reducible refine r_Tuple ?_
  with_reducible refine r_argNil ?_
  refine r_newTuple (Nat.le_of_ble_eq_true rfl) ?_; intro za1
  refine r_neD (k := 5) (by walk_at "room") (RD.tuple (Has.tail Has.head) (RDs.strs hgv)) (RD.tuple Has.head RDs.nil) (shaped_tups fun k hk' => hok k (Z.sub i hi k hk')) rfl ?_
  rw [eqv_tup0]
  with_reducible refine r_tBool ?_
  refine iteB (fun hb => ?_) (fun hb => ?_)
  rotate_left
  · have hG0 : G i = [] := by simpa using hb
    obtain rfl : i = N := by
      by_cases hlt : i < N
      · exact absurd hG0 (Z.ne i hlt)
      · omega
    with_reducible refine r_nil ?_
    with_reducible refine leafN (by assumption) ?_
    with_reducible refine r_consQ fun QQ hQQ => ?_
    with_reducible refine r_Ret ?_
    with_reducible refine r_Tuple ?_
    refine r_argCons ?_
    (refine' r_local rfl rfl rfl ?hv ?_; (case hv => walk_at "look"))
    refine r_argCons ?_
    (refine' r_local rfl rfl rfl ?hv ?_; (case hv => walk_at "look"))
    with_reducible refine r_argNil ?_
    refine r_newTuple (Nat.le_of_ble_eq_true rfl) ?_; intro tt
    with_reducible refine leafR (by assumption) ?_
    rw [hG0] at hf
    refine ⟨_, .cons₂ _ (.cons _ (.cons _ (.refl _))), h tt ro rg og gkvs ls c ns' ox' od' rc' a' t1' t2' (by simpa using hf) hog hgr hll hls⟩
  have hG0 : G i ≠ [] := by simpa using hb
  have hlt : i < N := by
    by_cases hlt : i < N
    · exact hlt
    · exact absurd (by rw [show i = N by omega]; exact Z.fin) hG0
  have hG1 : 0 < (G i).length := List.length_pos_iff.mpr hG0
  refine r_drop (led' := (tu, tupO gv) :: (ro, listO (rlV ls) c) :: (rg, og) :: ((rlL ls ++ pre) ++ RL x dx d r ox' od' ns' [] rc' post)) ?_ (List.sublist_cons_self _ _)
  with_reducible refine r_consQ fun QQ hQQ => ?_
  refine r_If ?_
  with_reducible refine r_isNot ?_
  refine r_isPlain ?_
  refine r_MCall ?_
  (refine' r_local rfl rfl rfl ?hv ?_; (case hv => walk_at "look"))
  refine r_gmAct (hSx (pre := _ :: _ :: _ :: (rlL ls ++ pre))) (hSdx (pre := _ :: _ :: _ :: (rlL ls ++ pre))) hf rfl ?_
  show T _ _ _ (callWith _ (Value.ref 142) [Value.ref x] _ _) _
  refine' r_cwK0 ?kf ?_
  (case kf => k_is)
  refine active_spec (pre := _ :: _ :: _ :: (rlL ls ++ pre)) (by walk_at "room") hf (by simp) ?_
  with_reducible refine r_tBool ?_
  refine iteB (fun hb => absurd hb (by
    have : a' < a' + ((G i).length : Int) := by omega
    simp [this])) (fun hb => ?_)
  with_reducible refine r_nil ?_
  with_reducible refine leafN (by assumption) ?_
  with_reducible refine r_consQ fun QQ hQQ => ?_
  refine r_ForTup R'.h ?_
  (refine' r_local rfl rfl rfl ?hv ?_; (case hv => walk_at "look"))
  obtain ⟨J2, hJ2⟩ : ∃ J2 : Nat → Loc → Led → Prop, ∀ j m3 l3, J2 j m3 l3 ↔ (Ex2 fun og3 gkvs3 => A11 (l3 = (tu, tupO gv) :: (ro, listO (rlV ls) c) :: (rg, og3) :: ((rlL ls ++ pre) ++ RL x dx d r ox' od' ns' [] rc' post)) (og3.IsDictOf (strKind PG C.W.w) gkvs3) (gkvs3.length ≤ 20 * i + j) ((∀ j, j < i → ∀ k ∈ G j, ∃ t, valueAt gkvs3 k = some (.int (RT k) t))) ((∀ k ∈ (G i).take j, ∃ t, valueAt gkvs3 k = some (.int (RT k) t))) (m3 "sorter" = some (.ref x)) (m3 "matched" = some (.ref xd)) (m3 "modes" = some (.ref md)) (m3 "rounds" = some (.ref ro)) (m3 "rights" = some (.ref rg)) (m3 "group" = some (.ref tu))) := ⟨_, fun _ _ _ => Iff.rfl⟩
  refine ⟨tu, gv, J2, rfl, Has.head, ?_, ?_, ?_, ?_⟩
  · intro j m3 l3 hj; obtain ⟨og3, gkvs3, rfl, _⟩ := (hJ2 _ _ _).mp hj; exact Has.head
  · exact (hJ2 _ _ _).mpr ⟨og, gkvs, rfl, hog, by omega, hgr, by simp, by walk_at "look", by walk_at "look", by walk_at "look", by walk_at "look", by walk_at "look", by walk_at "look"⟩
  · intro E3 I o3 j v m3 l3 hvj hj
    obtain ⟨og3, gkvs3, rfl, hog3, hgl3, hgr3, hgt3, e1, e2, e3, e4, e5, e6⟩ := (hJ2 _ _ _).mp hj
    obtain ⟨y, ty, hy, rfl⟩ := strsAre_get' hgv hvj
    have hyG : y ∈ G i := List.mem_of_getElem? hy
    have hyK := Z.sub i hi y hyG
    obtain ⟨lx, vx, cx, hvl, hlx, hvx⟩ := hXv y hyK
    obtain ⟨tm, hvm⟩ := hDv y hyK
    have hlvx := strsAre_len hvx
    obtain ⟨hM1, hM2⟩ := hMl y hyK
    have hjl : j < (G i).length := (List.getElem?_eq_some_iff.mp hy).1
    refine r_store rfl rfl rfl ?_
    with_reducible refine r_consQ fun QQ hQQ => ?_
    refine r_Assign ?_
    with_reducible refine r_Sub ?_
    refine r_CallKw ?_
    (refine' r_builtin rfl rfl rfl rfl ?e ?hv ?hn ?_; (case e => k_is); (case hv => boot_by_name); (case hn => decide))
    refine r_cwKw ?_
    refine r_argCons ?_
    with_reducible refine r_Sub ?_
    (refine' r_local rfl rfl rfl ?hv ?_; (case hv => walk_at "look"))
    refine r_local rfl rfl rfl rfl ?_
    refine r_dItem (hP (l0 := _ :: _ :: _ :: _ :: (rlL ls ++ pre)) rfl hX) hXd (strKind_is _ _ _ _) hvl ?_
    with_reducible refine r_argNil ?_
    refine r_kwCons ?_
    (refine' r_builtin rfl rfl rfl rfl ?e ?hv ?hn ?_; (case e => k_is); (case hv => boot_by_name); (case hn => decide))
    refine r_kwNil ?_
    show T _ _ _ (call (.builtin "sorted") [.ref lx] (kwLen false)) _
    refine r_sortedK (hP (l0 := _ :: _ :: _ :: _ :: (rlL ls ++ pre)) rfl hlx) hvx hM2 (by omega) fun srt out ss' k4 hout hperm hord => ?_
    have hlo := strsAre_len hout
    have hlp := hperm.length_eq
    with_reducible refine r_Slice ?_
    with_reducible refine r_partSome ?_
    with_reducible refine r_Unary ?_
    with_reducible refine r_int fun zt => ?_
    with_reducible refine r_neg fun zt => ?_
    with_reducible refine r_partNone ?_
    with_reducible refine r_partNone ?_
    intro sl4
    refine r_sliceList (l := srt) (vs := out) (n := k4) (lo := some (-1)) (hi := none) (Has.tail Has.head) Has.head (.int _ _) .none (by rw [sizeLine_eq]; omega) fun a4 => ?_
    rw [pick_last]
    refine r_store rfl rfl rfl ?_
    with_reducible refine leafN (by assumption) ?_
    with_reducible refine r_consQ fun QQ hQQ => ?_
    rcases Z.rt i hlt y hyG ss' hperm hord with ⟨hss, hrt⟩ | ⟨p5, a5, hss, ⟨j5, hj5, ha5⟩, hrt⟩
    · have ho0 : out = [] := List.length_eq_zero_iff.mp (by rw [hlo, hss]; rfl)
      subst ho0
      refine r_AssignSub ?_
      refine r_Call ?_
      (refine' r_global rfl rfl rfl ?e ?_; (case e => k_is))
      refine' r_cwK ?hf ?_; (case hf => k_is)
      refine r_argCons ?_
      with_reducible refine r_Sub ?_
      (refine' r_local rfl rfl rfl ?hv ?_; (case hv => walk_at "look"))
      refine r_local rfl rfl rfl rfl ?_
      refine r_dItem (hP (l0 := _ :: _ :: _ :: _ :: _ :: _ :: _ :: (rlL ls ++ pre)) rfl hD) hDd (strKind_is _ _ _ _) hvm ?_
      refine r_argCons ?_
      with_reducible refine r_IfExp ?_
      with_reducible refine r_isCmp ?_
      refine r_local rfl rfl rfl rfl ?_
      with_reducible refine r_List ?_
      with_reducible refine r_argNil ?_
      refine r_newList (Nat.le_of_ble_eq_true rfl) ?_; intro za3
      refine r_neD (k := 5) (by walk_at "room") (RD.list (Has.tail Has.head) RDs.nil) (RD.list Has.head RDs.nil) rfl rfl ?_
      with_reducible refine r_tBool ?_
      refine iteB (fun hb => absurd (show false = true from hb) (by decide)) (fun hb => ?_)
      with_reducible refine r_int fun zt => ?_
      with_reducible refine r_argNil ?_
      refine made_spec (by walk_at "room") fun t7 => ?_
      rw [← hrt]
      refine r_drop (led' := (I, o3) :: (tu, tupO gv) :: (ro, listO (rlV ls) c) :: (rg, og3) :: ((rlL ls ++ pre) ++ RL x dx d r ox' od' ns' [] rc' post)) ?_ (by walk_at "sub")
      (refine' r_local rfl rfl rfl ?hv ?_; (case hv => walk_at "look"))
      refine r_local rfl rfl rfl rfl ?_
      refine r_dSetItem (pre := [_, _, _]) rfl hog3 (strKind_is _ _ _ _) (by rw [sizeLine_eq]; have := Z.bd; omega) fun o8 ho8 => ?_
      with_reducible refine leafN (by assumption) ?_
      with_reducible refine r_nil ?_
      refine TurnF.next _ (.refl _) ((hJ2 _ _ _).mpr ⟨o8, _, rfl, ho8, ?_, ?_, ?_, by walk_at "look", by walk_at "look", by walk_at "look", by walk_at "look", by walk_at "look", by walk_at "look"⟩)
      · have := stored_length_le gkvs3 y (.int (RT y) t7); omega
      · exact fun j' hj' k hk' => stored_keep (hgr3 j' hj' k hk')
      · exact fun k hk' => stored_more hy hgt3 k hk'
    · obtain ⟨o5, t5, rfl⟩ : ∃ o5 t5, out = o5 ++ [.str a5 t5] := strsAre_snoc_inv (hss ▸ hout)
      have hdr : (o5 ++ [Value.str a5 t5]).drop ((o5 ++ [Value.str a5 t5]).length - 1) = [.str a5 t5] := by simp
      rw [hdr]
      obtain ⟨tr, hvr⟩ := hgr3 j5 hj5 a5 ha5
      have hka : PyData.strOk a5 = true := hok a5 (Z.sub j5 (by omega) a5 ha5)
      refine r_AssignSub ?_
      refine r_Call ?_
      (refine' r_global rfl rfl rfl ?e ?_; (case e => k_is))
      refine' r_cwK ?hf ?_; (case hf => k_is)
      refine r_argCons ?_
      with_reducible refine r_Sub ?_
      (refine' r_local rfl rfl rfl ?hv ?_; (case hv => walk_at "look"))
      refine r_local rfl rfl rfl rfl ?_
      refine r_dItem (hP (l0 := _ :: _ :: _ :: _ :: _ :: _ :: _ :: (rlL ls ++ pre)) rfl hD) hDd (strKind_is _ _ _ _) hvm ?_
      refine r_argCons ?_
      with_reducible refine r_IfExp ?_
      with_reducible refine r_isCmp ?_
      refine r_local rfl rfl rfl rfl ?_
      with_reducible refine r_List ?_
      with_reducible refine r_argNil ?_
      refine r_newList (Nat.le_of_ble_eq_true rfl) ?_; intro za4
      refine r_neD (k := 5) (by walk_at "room") (RD.list (Has.tail Has.head) (RDs.strs (ys := [a5]) (.cons _ _ .nil))) (RD.list Has.head RDs.nil) (shaped_strs (by simpa using hka)) rfl ?_
      with_reducible refine r_tBool ?_
      refine iteB (fun hb => ?_) (fun hb => absurd (show true = false from hb) (by decide))
      with_reducible refine r_Sub ?_
      (refine' r_local rfl rfl rfl ?hv ?_; (case hv => walk_at "look"))
      with_reducible refine r_Sub ?_
      refine r_local rfl rfl rfl rfl ?_
      with_reducible refine r_int fun zt => ?_
      refine r_itemList (Has.tail Has.head) (by decide) (by decide) rfl ?_
      refine r_dItem (Has.tail (Has.tail (Has.tail (Has.tail (Has.tail (Has.tail (Has.tail Has.head))))))) hog3 (strKind_is _ _ _ _) hvr ?_
      with_reducible refine r_argNil ?_
      refine made_spec (by walk_at "room") fun t7 => ?_
      rw [← hrt]
      refine r_drop (led' := (I, o3) :: (tu, tupO gv) :: (ro, listO (rlV ls) c) :: (rg, og3) :: ((rlL ls ++ pre) ++ RL x dx d r ox' od' ns' [] rc' post)) ?_ (by walk_at "sub")
      (refine' r_local rfl rfl rfl ?hv ?_; (case hv => walk_at "look"))
      refine r_local rfl rfl rfl rfl ?_
      refine r_dSetItem (pre := [_, _, _]) rfl hog3 (strKind_is _ _ _ _) (by rw [sizeLine_eq]; have := Z.bd; omega) fun o8 ho8 => ?_
      with_reducible refine leafN (by assumption) ?_
      with_reducible refine r_nil ?_
      refine TurnF.next _ (.refl _) ((hJ2 _ _ _).mpr ⟨o8, _, rfl, ho8, ?_, ?_, ?_, by walk_at "look", by walk_at "look", by walk_at "look", by walk_at "look", by walk_at "look", by walk_at "look"⟩)
      · have := stored_length_le gkvs3 y (.int (RT y) t7); omega
      · exact fun j' hj' k hk' => stored_keep (hgr3 j' hj' k hk')
      · exact fun k hk' => stored_more hy hgt3 k hk'
  · intro E3 m3 l3 hj
    obtain ⟨og3, gkvs3, rfl, hog3, hgl3, hgr3, hgt3, e1, e2, e3, e4, e5, e6⟩ := (hJ2 _ _ _).mp hj
    rw [hgl2, List.take_length] at hgt3
    with_reducible refine r_nil ?_
    with_reducible refine leafN (by assumption) ?_
    with_reducible refine r_consQ fun QQ hQQ => ?_
    refine r_Expr ?_
    refine r_MCall ?_
    (refine' r_local rfl rfl rfl ?hv ?_; (case hv => walk_at "look"))
    refine r_gmAppend (Has.tail Has.head) ?_
    refine r_cwB ?_
    refine r_argCons ?_
    refine r_Call ?_
    (refine' r_builtin rfl rfl rfl rfl ?e ?hv ?hn ?_; (case e => k_is); (case hv => boot_by_name); (case hn => decide))
    refine r_cwB ?_
    refine r_argCons ?_
    (refine' r_local rfl rfl rfl ?hv ?_; (case hv => walk_at "look"))
    with_reducible refine r_argNil ?_
    refine r_sortedT Has.head hgv (by omega) fun srt out ss' k4 hout hperm hord => ?_
    with_reducible refine r_argNil ?_
    refine r_append (vs := rlV ls) (n := c) (pre := [(srt, listO out k4), (tu, tupO gv)]) (post := (rg, og3) :: ((rlL ls ++ pre) ++ RL x dx d r ox' od' ns' [] rc' post)) rfl (by rw [sizeLine_eq]; have := Z.bd; simp; omega) fun c5 => ?_
    with_reducible refine leafN (by assumption) ?_
    refine r_perm (led' := (tu, tupO gv) :: (ro, listO (rlV (ls ++ [(srt, out, k4)])) c5) :: (rg, og3) :: ((rlL (ls ++ [(srt, out, k4)]) ++ pre) ++ RL x dx d r ox' od' ns' [] rc' post)) ?_ (by
      have := List.perm_middle (a := (srt, listO out k4)) (l₁ := (tu, tupO gv) :: (ro, listO (rlV (ls ++ [(srt, out, k4)])) c5) :: (rg, og3) :: rlL ls) (l₂ := pre ++ RL x dx d r ox' od' ns' [] rc' post)
      simpa [rlL, rlV] using this)
    with_reducible refine r_consQ fun QQ hQQ => ?_
    refine r_Expr ?_
    refine r_SCall ?_
    (refine' r_local rfl rfl rfl ?hv ?_; (case hv => walk_at "look"))
    refine r_gaDone (hSx (pre := _ :: _ :: _ :: (rlL (ls ++ [(srt, out, k4)]) ++ pre))) (hSdx (pre := _ :: _ :: _ :: (rlL (ls ++ [(srt, out, k4)]) ++ pre))) hf rfl fun q => ?_
    refine' r_cwM (self := .ref x) (f := 156) ?kf ?_
    (case kf => k_is)
    (refine' r_local rfl rfl rfl ?hv ?_; (case hv => walk_at "look"))
    refine ⟨gv, ⟨tu, rfl, .inr (Has.tail Has.head), by rw [sizeLine_eq]; omega⟩, Has.head, r_callMeth Has.head ?_⟩
    refine done_spec (pre := _ :: _ :: _ :: _ :: (rlL (ls ++ [(srt, out, k4)]) ++ pre)) (rs := []) (by walk_at "room") hf hsys B .nil hgv (fun j hj => by rw [hk]; exact Z.sub i hi j hj) (fun k j hj => by rw [hk]; exact hsu k j hj) (Z.out i hlt) hs ⟨hGl, by simp⟩ fun ns6 ox6 rv6 rc6 t6 hf6 B6 hr6 hk6 => ?_
    rw [Z.step i hlt] at B6 hr6
    simp only at B6 hr6
    with_reducible refine leafN (by assumption) ?_
    with_reducible refine r_consQ fun QQ hQQ => ?_
    refine r_Assign ?_
    refine r_MCall ?_
    (refine' r_local rfl rfl rfl ?hv ?_; (case hv => walk_at "look"))
    refine r_gmReady (hSx (pre := _ :: _ :: _ :: _ :: (rlL (ls ++ [(srt, out, k4)]) ++ pre))) (hSdx (pre := _ :: _ :: _ :: _ :: (rlL (ls ++ [(srt, out, k4)]) ++ pre))) hf6 rfl ?_
    show T _ _ _ (callWith _ (Value.ref 135) [Value.ref x] _ _) _
    refine' r_cwK0 ?kf ?_
    (case kf => k_is)
    refine ready_spec (pre := _ :: _ :: _ :: _ :: (rlL (ls ++ [(srt, out, k4)]) ++ pre)) (by walk_at "room") hf6 B6 hr6 (fun j hj => by rw [hk6, hk]; exact Z.sub (i + 1) hlt j hj) (by have := Z.len (i + 1) hlt; omega) fun tu7 ns7 ox7 od7 rc7 t7 hf7 B7 hk7 => ?_
    refine r_store rfl rfl rfl ?_
    with_reducible refine leafN (by assumption) ?_
    with_reducible refine r_nil ?_
    refine Turn.next ((tu7, tupO rv6) :: (ro, listO (rlV (ls ++ [(srt, out, k4)])) c5) :: (rg, og3) :: ((rlL (ls ++ [(srt, out, k4)]) ++ pre) ++ RL x dx d r ox7 od7 ns7 [] rc7 post)) (N - (i + 1)) (.cons₂ _ (.cons _ (.cons _ (.refl _)))) (by omega)
      ((hJ _ _ _).mpr ⟨i + 1, a' + (G i).length, tu7, rv6, og3, gkvs3, ls ++ [(srt, out, k4)], c5, ns7, ox7, od7, rc7, t7, t6, rfl, hlt, rfl, hr6, hf7, B7, hk7.trans (hk6.trans hk), hog3, by omega, ?_, by simp [hll], ?_, by walk_at "look", by walk_at "look", by walk_at "look", by walk_at "look", by walk_at "look", by walk_at "look"⟩)
    · intro j hj k hkj
      by_cases e : j = i
      · subst e; exact hgt3 k hkj
      · exact hgr3 j (by omega) k hkj
    · intro j p hp
      by_cases e : j < ls.length
      · rw [List.getElem?_append_left e] at hp
        exact hls j p hp
      · rw [List.getElem?_append_right (by omega)] at hp
        have e2 : j - ls.length = 0 := by
          by_cases e3 : j - ls.length = 0
          · exact e3
          · rw [List.getElem?_eq_none (by simp; omega)] at hp; cases hp
        rw [e2] at hp
        have e3 : p = (srt, out, k4) := by simpa using hp.symm
        have e4 : j = i := by omega
        rw [e3, e4]
        exact ⟨ss', hout, hperm, hord⟩
end
end GB
section
open F1 G5 G6 G7 G8 GB
theorem len_mem {a b : List Str} (ha : a.Nodup) (hb : b.Nodup) (h : ∀ x, x ∈ a ↔ x ∈ b) : a.length = b.length := ((List.perm_ext_iff_of_nodup ha hb).mpr h).length_eq
theorem nodup_filter {a : List Str} (p : Str → Bool) (h : a.Nodup) : (a.filter p).Nodup := List.filter_sublist.nodup h
section
variable {SU : Str → List Str}
theorem dec_fold (S : List Str) (hS : S.Nodup) : ∀ (NP : Str → Int) (rs : List Str),
    (∀ y, (S.foldl decS (NP, rs)).1 y = if y ∈ S then NP y - 1 else NP y) ∧ (∀ y, y ∈ (S.foldl decS (NP, rs)).2 ↔ y ∈ rs ∨ (y ∈ S ∧ NP y = 1)) ∧ (rs.Nodup → (∀ y ∈ S, NP y = 1 → y ∉ rs) → (S.foldl decS (NP, rs)).2.Nodup) := by
  induction S with
  | nil => intro NP rs; simp
  | cons s r ih =>
    intro NP rs
    have hs := List.nodup_cons.mp hS
    obtain ⟨h1, h2, h3⟩ := ih hs.2 (decS (NP, rs) s).1 (decS (NP, rs) s).2
    have e1 : ∀ y, (decS (NP, rs) s).1 y = if y = s then NP s - 1 else NP y := fun y => rfl
    have e2 : ∀ y, y ∈ (decS (NP, rs) s).2 ↔ y ∈ rs ∨ (y = s ∧ NP s = 1) := fun y => by
      unfold decS
      dsimp only
      split
      · rename_i hz
        have : NP s = 1 := by omega
        simp [this]
      · rename_i hz
        have : ¬ NP s = 1 := by omega
        simp [this]
    refine ⟨fun y => ?_, fun y => ?_, fun hn hd => ?_⟩
    · rw [List.foldl_cons, h1 y, e1 y]
      by_cases ys : y = s
      · subst ys; simp [hs.1]
      · simp [ys]
    · rw [List.foldl_cons, h2 y, e2 y, e1 y]
      by_cases ys : y = s
      · subst ys; simp [hs.1]
      · simp [ys]
    · rw [List.foldl_cons]
      refine h3 ?_ ?_
      · unfold decS
        dsimp only
        split
        · rename_i hz
          have : s ∉ rs := hd s (by simp) (by omega)
          rw [List.nodup_append]
          exact ⟨hn, by simp, fun a ha b hb e => this (by simp at hb; rw [← hb, ← e]; exact ha)⟩
        · exact hn
      · intro y hy hy1
        have ys : y ≠ s := fun e => hs.1 (e ▸ hy)
        rw [e1 y, if_neg ys] at hy1
        intro hm
        rcases (e2 y).mp hm with hm | ⟨e, _⟩
        · exact hd y (by simp [hy]) hy1 hm
        · exact ys e
def cntG (SU : Str → List Str) (G : List Str) (y : Str) : Nat := (G.filter fun g => decide (y ∈ SU g)).length
theorem cntG_cons (g : Str) (r : List Str) (y : Str) : cntG SU (g :: r) y = (if y ∈ SU g then 1 else 0) + cntG SU r y := by
  unfold cntG
  rw [List.filter_cons]
  by_cases e : y ∈ SU g
  · simp [e]; omega
  · simp [e]
theorem dall_fold (hSU : ∀ g, (SU g).Nodup) (G : List Str) : G.Nodup → (∀ g ∈ G, ∀ g' ∈ G, g' ∉ SU g) → ∀ (NP : Str → Int) (rs : List Str),
    (∀ y, (dall SU (NP, rs) G).1 y = if y ∈ G then -2 else NP y - cntG SU G y) ∧
    ((∀ y, 0 < cntG SU G y → (cntG SU G y : Int) ≤ NP y) → rs.Nodup → (∀ y ∈ rs, cntG SU G y = 0) → (∀ y, y ∈ (dall SU (NP, rs) G).2 ↔ y ∈ rs ∨ (y ∉ G ∧ 0 < cntG SU G y ∧ NP y = cntG SU G y)) ∧ (dall SU (NP, rs) G).2.Nodup) := by
  induction G with
  | nil => intro _ _ NP rs; simp [dall, cntG]
  | cons g r ih =>
    intro hG hE NP rs
    have hg := List.nodup_cons.mp hG
    have hgg : g ∉ SU g := hE g (by simp) g (by simp)
    have hgr : cntG SU r g = 0 := by
      unfold cntG
      rw [List.length_eq_zero_iff, List.filter_eq_nil_iff]
      intro x hx
      simpa using hE x (by simp [hx]) g (by simp)
    obtain ⟨d1, d2, d3⟩ := dec_fold (SU g) (hSU g) (G7.putN NP g (-2)) rs
    obtain ⟨i1, i2⟩ := ih hg.2 (fun a ha b hb => hE a (by simp [ha]) b (by simp [hb])) (dnode SU (NP, rs) g).1 (dnode SU (NP, rs) g).2
    have e1 : ∀ y, (dnode SU (NP, rs) g).1 y = if y = g then -2 else if y ∈ SU g then NP y - 1 else NP y := fun y => by
      refine (d1 y).trans ?_
      by_cases yg : y = g
      · subst yg; simp [hgg, G7.putN]
      · simp [yg, G7.putN]
    have e2 : ∀ y, y ∈ (dnode SU (NP, rs) g).2 ↔ y ∈ rs ∨ (y ∈ SU g ∧ NP y = 1) := fun y => by
      refine (d2 y).trans ?_
      by_cases yg : y = g
      · subst yg; simp [hgg]
      · simp [yg, G7.putN]
    refine ⟨fun y => ?_, fun hH hn hz => ?_⟩
    · show (dall SU (dnode SU (NP, rs) g) r).1 y = _
      rw [i1 y, e1 y, cntG_cons]
      by_cases yr : y ∈ r
      · simp [yr]
      · by_cases yg : y = g
        · subst yg; simp [hg.1, hgr]
        · by_cases ys : y ∈ SU g
          · simp [yr, yg, ys]; omega
          · simp [yr, yg, ys]
    · have hc : ∀ y, cntG SU (g :: r) y = (if y ∈ SU g then 1 else 0) + cntG SU r y := fun y => cntG_cons g r y
      obtain ⟨j1, j2⟩ := i2 (fun y hy => by
        have yg : y ≠ g := fun e => by rw [e, hgr] at hy; omega
        have := hH y (by rw [hc]; omega)
        rw [hc] at this
        rw [e1, if_neg yg]
        by_cases ys : y ∈ SU g
        · simp only [ys, if_true] at this ⊢; omega
        · simp only [ys, if_false] at this ⊢; omega) (d3 hn (fun y hy h1 hm => by
        have := hz y hm
        rw [hc, if_pos hy] at this; omega)) (fun y hy => by
        rcases (e2 y).mp hy with hy | ⟨hy, hy1⟩
        · have := hz y hy; rw [hc] at this; omega
        · have := hH y (by rw [hc, if_pos hy]; omega)
          rw [hc, if_pos hy] at this; omega)
      refine ⟨fun y => ?_, j2⟩
      show y ∈ (dall SU (dnode SU (NP, rs) g) r).2 ↔ _
      rw [j1 y, e2 y, e1 y, hc y]
      have hHy := hH y
      rw [hc y] at hHy
      by_cases yg : y = g
      · subst yg
        simp only [hgg, hgr, if_false, if_true]
        simp
      · by_cases ys : y ∈ SU g
        · have yr : y ∉ r := fun hr => hE g (by simp) y (by simp [hr]) ys
          simp only [ys, yg, yr, if_true, if_false, List.mem_cons, or_self, not_false_eq_true, true_and] at hHy ⊢
          have h1 := hHy (by omega)
          constructor
          · rintro ((h | h) | ⟨h, h'⟩)
            · exact .inl h
            · exact .inr ⟨by omega, by omega⟩
            · exact .inr ⟨by omega, by omega⟩
          · rintro (h | ⟨_, h⟩)
            · exact .inl (.inl h)
            · by_cases z : cntG SU r y = 0
              · exact .inl (.inr (by omega))
              · exact .inr ⟨by omega, by omega⟩
        · simp only [ys, yg, if_false, List.mem_cons, false_or, false_and, or_false, Nat.zero_add]
end
structure OrdU (K : List Str) (U : Str → Str → Bool) : Prop where
  nd : K.Nodup
  tr : ∀ a ∈ K, ∀ b ∈ K, ∀ c ∈ K, U a b = true → U b c = true → U a c = true
  ch : ∀ a ∈ K, ∀ b ∈ K, ∀ c ∈ K, U a b = true → U a c = true → U b c = true ∨ U c b = true
  lt : ∀ a ∈ K, ∀ b ∈ K, U a b = true → U b a = false → b.length < a.length
def Mf (K : List Str) (U : Str → Str → Bool) (k : Str) : List Str := K.filter fun j => j != k && U k j
def dblB (K : List Str) (U : Str → Str → Bool) (k : Str) : Bool := K.any fun j => j != k && (U k j && U j k)
def freeB (K : List Str) (U : Str → Str → Bool) (k : Str) : Bool := !dblB K U k && (Mf K U k).all fun x => !dblB K U x
section
variable {K : List Str} {U : Str → Str → Bool}
theorem mem_M {k j : Str} : j ∈ Mf K U k ↔ j ∈ K ∧ j ≠ k ∧ U k j = true := by simp [Mf]
theorem M_nd (O : OrdU K U) (k : Str) : (Mf K U k).Nodup := nodup_filter _ O.nd
theorem dbl_iff {k : Str} : dblB K U k = true ↔ ∃ j ∈ K, j ≠ k ∧ U k j = true ∧ U j k = true := by simp [dblB]
theorem free_iff {k : Str} : freeB K U k = true ↔ dblB K U k = false ∧ ∀ x ∈ Mf K U k, dblB K U x = false := by simp [freeB]
theorem free_anti {a b : Str} (ha : a ∈ K) (hf : freeB K U a = true) (hb : b ∈ K) (hne : b ≠ a) (h : U a b = true) : U b a = false := by
  cases q : U b a with
  | false => rfl
  | true => exact absurd (dbl_iff.mpr ⟨b, hb, hne, h, q⟩) (by rw [(free_iff.mp hf).1]; simp)
theorem free_sub (O : OrdU K U) {k j : Str} (hk : k ∈ K) (hf : freeB K U k = true) (hj : j ∈ Mf K U k) : freeB K U j = true ∧ (∀ x ∈ Mf K U j, x ∈ Mf K U k) ∧ k ∉ Mf K U j := by
  obtain ⟨j1, j2, j3⟩ := mem_M.mp hj
  have hkj : k ∉ Mf K U j := fun h => by
    have := free_anti hk hf j1 j2 j3
    rw [(mem_M.mp h).2.2] at this; cases this
  have hsub : ∀ x ∈ Mf K U j, x ∈ Mf K U k := fun x hx => by
    obtain ⟨x1, x2, x3⟩ := mem_M.mp hx
    exact mem_M.mpr ⟨x1, fun e => hkj (e ▸ hx), O.tr k hk j j1 x x1 j3 x3⟩
  exact ⟨free_iff.mpr ⟨(free_iff.mp hf).2 j hj, fun x hx => (free_iff.mp hf).2 x (hsub x hx)⟩, hsub, hkj⟩
theorem not_self {j : Str} : j ∉ Mf K U j := fun h => (mem_M.mp h).2.1 rfl
theorem free_lt (O : OrdU K U) {k j : Str} (hk : k ∈ K) (hf : freeB K U k = true) (hj : j ∈ Mf K U k) : (Mf K U j).length < (Mf K U k).length := by
  have h := free_sub O hk hf hj
  have := nodup_le (l := j :: Mf K U j) (l2 := Mf K U k) (List.nodup_cons.mpr ⟨not_self, M_nd O j⟩) (fun a ha => by
    rcases List.mem_cons.mp ha with rfl | ha
    · exact hj
    · exact h.2.1 a ha)
  simp only [List.length_cons] at this
  omega
theorem free_of {y : Str} (h : ∀ x ∈ Mf K U y, freeB K U x = true) (hy : y ∈ K) : freeB K U y = true := by
  refine free_iff.mpr ⟨?_, fun x hx => (free_iff.mp (h x hx)).1⟩
  cases q : dblB K U y with
  | false => rfl
  | true =>
    obtain ⟨j, hj, hne, h1, h2⟩ := dbl_iff.mp q
    have hm := mem_M.mpr ⟨hj, hne, h1⟩
    have := (free_iff.mp (h j hm)).1
    rw [dbl_iff.mpr ⟨y, hy, Ne.symm hne, h2, h1⟩] at this; cases this
theorem top_of (O : OrdU K U) {y j : Str} (hy : y ∈ K) (hj : j ∈ Mf K U y) (hf : ∀ x ∈ Mf K U y, freeB K U x = true) (hm : ∀ x ∈ Mf K U y, (Mf K U x).length ≤ (Mf K U j).length) :
    (∀ x, x ∈ Mf K U y ↔ x = j ∨ x ∈ Mf K U j) ∧ (Mf K U y).length = (Mf K U j).length + 1 := by
  have hfy := free_of hf hy
  obtain ⟨j1, j2, j3⟩ := mem_M.mp hj
  have hs := free_sub O hy hfy hj
  have key : ∀ x, x ∈ Mf K U y ↔ x = j ∨ x ∈ Mf K U j := fun x => by
    constructor
    · intro hx
      by_cases e : x = j
      · exact .inl e
      · obtain ⟨x1, x2, x3⟩ := mem_M.mp hx
        rcases O.ch y hy j j1 x x1 j3 x3 with h | h
        · exact .inr (mem_M.mpr ⟨x1, e, h⟩)
        · have := free_lt O x1 (hf x hx) (mem_M.mpr ⟨j1, Ne.symm e, h⟩)
          have := hm x hx
          omega
    · rintro (rfl | hx)
      · exact hj
      · exact hs.2.1 x hx
  refine ⟨key, ?_⟩
  have := len_mem (a := Mf K U y) (b := j :: Mf K U j) (M_nd O y) (List.nodup_cons.mpr ⟨not_self, M_nd O j⟩) (fun x => by rw [key x]; simp)
  simpa using this
theorem exists_max (f : Str → Nat) : ∀ (l : List Str), l ≠ [] → ∃ j ∈ l, ∀ x ∈ l, f x ≤ f j
  | [a], _ => ⟨a, by simp, by simp⟩
  | a :: b :: r, _ => by
    obtain ⟨j, hj, hm⟩ := exists_max f (b :: r) (by simp)
    by_cases h : f a ≤ f j
    · exact ⟨j, by simp [List.mem_cons.mp hj], fun x hx => by rcases List.mem_cons.mp hx with rfl | hx; exact h; exact hm x hx⟩
    · exact ⟨a, by simp, fun x hx => by
        rcases List.mem_cons.mp hx with rfl | hx
        · exact Nat.le_refl _
        · have := hm x hx; omega⟩
theorem top_ex (O : OrdU K U) {y : Str} (hy : y ∈ K) (hf : freeB K U y = true) (hne : Mf K U y ≠ []) :
    ∃ j, j ∈ Mf K U y ∧ freeB K U j = true ∧ (∀ x, x ∈ Mf K U y ↔ x = j ∨ x ∈ Mf K U j) ∧ (Mf K U y).length = (Mf K U j).length + 1 := by
  obtain ⟨j, hj, hm⟩ := exists_max (fun x => (Mf K U x).length) (Mf K U y) hne
  have ha : ∀ x ∈ Mf K U y, freeB K U x = true := fun x hx => (free_sub O hy hf hx).1
  exact ⟨j, hj, ha j hj, top_of O hy hj ha hm⟩
theorem sizes_all (O : OrdU K U) : ∀ (n : Nat) {y : Str}, y ∈ K → freeB K U y = true → (Mf K U y).length = n → ∀ s, s ≤ n → ∃ j ∈ K, freeB K U j = true ∧ (Mf K U j).length = s
  | 0, y, hy, hf, hn, s, hs => ⟨y, hy, hf, by omega⟩
  | n + 1, y, hy, hf, hn, s, hs => by
    by_cases e : s = n + 1
    · exact ⟨y, hy, hf, by omega⟩
    · obtain ⟨j, hj, hfj, _, hl⟩ := top_ex O hy hf (fun e => by rw [e] at hn; simp at hn)
      exact sizes_all O n (mem_M.mp hj).1 hfj (by omega) s (by omega)
def stR (SU : Str → List Str) (NP : Str → Int) (g : List Str) : Nat → (Str → Int) × List Str
  | 0 => (NP, g)
  | i + 1 => dall SU (outNP (stR SU NP g i).1 (stR SU NP g i).2, []) (stR SU NP g i).2
def lowN (K : List Str) (U : Str → Str → Bool) (i : Nat) (y : Str) : Nat := ((Mf K U y).filter fun j => freeB K U j && decide ((Mf K U j).length < i)).length
def eqN (K : List Str) (U : Str → Str → Bool) (i : Nat) (y : Str) : Nat := ((Mf K U y).filter fun j => freeB K U j && decide ((Mf K U j).length = i)).length
theorem low_succ (i : Nat) (y : Str) : lowN K U (i + 1) y = lowN K U i y + eqN K U i y := by
  unfold lowN eqN
  generalize Mf K U y = l
  induction l with
  | nil => rfl
  | cons a r ih =>
    rw [List.filter_cons, List.filter_cons, List.filter_cons]
    cases freeB K U a
    · simpa using ih
    · by_cases h1 : (Mf K U a).length < i
      · have h2 : (Mf K U a).length < i + 1 := by omega
        have h3 : ¬ (Mf K U a).length = i := by omega
        simp [h1, h2, h3] at ih ⊢; omega
      · by_cases h3 : (Mf K U a).length = i
        · have h2 : (Mf K U a).length < i + 1 := by omega
          simp [h1, h2, h3] at ih ⊢; omega
        · have h2 : ¬ (Mf K U a).length < i + 1 := by omega
          simp [h1, h2, h3] at ih ⊢; omega
theorem low_le (i : Nat) (y : Str) : lowN K U i y ≤ (Mf K U y).length := List.length_filter_le _ _
theorem low_all {i : Nat} {y : Str} (h : lowN K U i y = (Mf K U y).length) : ∀ x ∈ Mf K U y, freeB K U x = true ∧ (Mf K U x).length < i := by
  intro x hx
  have := List.length_filter_eq_length_iff.mp h x hx
  simpa using this
structure RndOk (K : List Str) (U : Str → Str → Bool) (i : Nat) (st : (Str → Int) × List Str) : Prop where
  val : ∀ y ∈ K, st.1 y = if freeB K U y = true ∧ (Mf K U y).length < i then -2 else ((Mf K U y).length : Int) - lowN K U i y
  nd : st.2.Nodup
  mem : ∀ y, y ∈ st.2 ↔ y ∈ K ∧ freeB K U y = true ∧ (Mf K U y).length = i
section
variable {SU : Str → List Str}
theorem cnt_eq (O : OrdU K U) (hSU : ∀ g y, y ∈ SU g ↔ y ∈ K ∧ g ∈ Mf K U y) {i : Nat} {G : List Str} (hn : G.Nodup) (hG : ∀ y, y ∈ G ↔ y ∈ K ∧ freeB K U y = true ∧ (Mf K U y).length = i) {y : Str} (hy : y ∈ K) : cntG SU G y = eqN K U i y := by
  unfold cntG eqN
  refine len_mem (nodup_filter _ hn) (nodup_filter _ (M_nd O y)) fun x => ?_
  simp only [List.mem_filter, decide_eq_true_eq, Bool.and_eq_true]
  rw [hSU, hG]
  constructor
  · rintro ⟨⟨h1, h2, h3⟩, h4, h5⟩; exact ⟨h5, h2, h3⟩
  · rintro ⟨h5, h2, h3⟩; exact ⟨⟨(mem_M.mp h5).1, h2, h3⟩, hy, h5⟩
theorem no_edge (O : OrdU K U) (hSU : ∀ g y, y ∈ SU g ↔ y ∈ K ∧ g ∈ Mf K U y) {i : Nat} {G : List Str} (hG : ∀ y, y ∈ G ↔ y ∈ K ∧ freeB K U y = true ∧ (Mf K U y).length = i) : ∀ g ∈ G, ∀ g' ∈ G, g' ∉ SU g := by
  intro g hg g' hg' h
  obtain ⟨h1, h2, h3⟩ := (hG g').mp hg'
  have := free_lt O h1 h2 ((hSU g g').mp h).2
  have := ((hG g).mp hg).2.2
  omega
theorem rnd_step (O : OrdU K U) (hSU : ∀ g y, y ∈ SU g ↔ y ∈ K ∧ g ∈ Mf K U y) (hSn : ∀ g, (SU g).Nodup) {i : Nat} {st : (Str → Int) × List Str} (h : RndOk K U i st) :
    RndOk K U (i + 1) (dall SU (outNP st.1 st.2, []) st.2) := by
  have hE := no_edge O hSU h.mem
  obtain ⟨d1, d2⟩ := dall_fold hSn st.2 h.nd hE (outNP st.1 st.2) []
  have c0 : ∀ y ∈ st.2, cntG SU st.2 y = 0 := fun y hy => by
    unfold cntG
    rw [List.length_eq_zero_iff, List.filter_eq_nil_iff]
    intro x hx
    simpa using hE x hx y hy
  have cK : ∀ y, y ∉ K → cntG SU st.2 y = 0 := fun y hy => by
    unfold cntG
    rw [List.length_eq_zero_iff, List.filter_eq_nil_iff]
    intro x hx
    simp only [decide_eq_true_eq]
    exact fun q => hy ((hSU x y).mp q).1
  have cF : ∀ y ∈ K, freeB K U y = true → (Mf K U y).length ≤ i → eqN K U i y = 0 := fun y hy hf hl => by
    unfold eqN
    rw [List.length_eq_zero_iff, List.filter_eq_nil_iff]
    intro x hx q
    have := free_lt O hy hf hx
    simp only [Bool.and_eq_true, decide_eq_true_eq] at q
    omega
  have val1 : ∀ y ∈ K, y ∉ st.2 → ¬ (freeB K U y = true ∧ (Mf K U y).length < i) → outNP st.1 st.2 y = ((Mf K U y).length : Int) - lowN K U i y := fun y hy hg hn => by
    show (if y ∈ st.2 then (-1 : Int) else st.1 y) = _
    rw [if_neg hg, h.val y hy, if_neg hn]
  obtain ⟨m1, m2⟩ := d2 (fun y hy => by
      have hyK : y ∈ K := by
        by_cases q : y ∈ K
        · exact q
        · have := cK y q; omega
      have hyG : y ∉ st.2 := fun q => by have := c0 y q; omega
      have e := cnt_eq O hSU h.nd h.mem hyK
      have hnf : ¬ (freeB K U y = true ∧ (Mf K U y).length < i) := fun ⟨q1, q2⟩ => by have := cF y hyK q1 (by omega); omega
      rw [val1 y hyK hyG hnf, e]
      have := low_succ (K := K) (U := U) i y
      have := low_le (K := K) (U := U) (i + 1) y
      omega) (by simp) (by simp)
  refine ⟨fun y hy => ?_, m2, fun y => ?_⟩
  · rw [d1 y]
    by_cases hg : y ∈ st.2
    · obtain ⟨_, g2, g3⟩ := (h.mem y).mp hg
      rw [if_pos hg, if_pos ⟨g2, by omega⟩]
    · rw [if_neg hg]
      by_cases hf : freeB K U y = true ∧ (Mf K U y).length < i
      · have := cF y hy hf.1 (by omega)
        have e := cnt_eq O hSU h.nd h.mem hy
        rw [if_pos ⟨hf.1, by omega⟩, e, this]
        show (if y ∈ st.2 then (-1 : Int) else st.1 y) - _ = _
        rw [if_neg hg, h.val y hy, if_pos hf]
        rfl
      · rw [val1 y hy hg hf, cnt_eq O hSU h.nd h.mem hy]
        have hn : ¬ (freeB K U y = true ∧ (Mf K U y).length < i + 1) := fun ⟨q1, q2⟩ => by
          by_cases q3 : (Mf K U y).length = i
          · exact hg ((h.mem y).mpr ⟨hy, q1, q3⟩)
          · exact hf ⟨q1, by omega⟩
        rw [if_neg hn]
        have := low_succ (K := K) (U := U) i y
        omega
  · rw [m1 y]
    simp only [List.not_mem_nil, false_or]
    constructor
    · rintro ⟨hg, hc, hv⟩
      have hyK : y ∈ K := by
        by_cases q : y ∈ K
        · exact q
        · have := cK y q; omega
      have e := cnt_eq O hSU h.nd h.mem hyK
      have hnf : ¬ (freeB K U y = true ∧ (Mf K U y).length < i) := fun ⟨q1, q2⟩ => by have := cF y hyK q1 (by omega); omega
      rw [val1 y hyK hg hnf, e] at hv
      have l1 := low_succ (K := K) (U := U) i y
      have hall := low_all (K := K) (U := U) (i := i + 1) (y := y) (by omega)
      rw [e] at hc
      unfold eqN at hc
      obtain ⟨j, hj⟩ := List.exists_mem_of_length_pos hc
      obtain ⟨hj1, hj2⟩ := List.mem_filter.mp hj
      simp only [Bool.and_eq_true, decide_eq_true_eq] at hj2
      have ht := top_of O hyK hj1 (fun x hx => (hall x hx).1) (fun x hx => by have := (hall x hx).2; omega)
      exact ⟨hyK, free_of (fun x hx => (hall x hx).1) hyK, by omega⟩
    · rintro ⟨hyK, hf, hl⟩
      have hg : y ∉ st.2 := fun q => by have := ((h.mem y).mp q).2.2; omega
      have hnf : ¬ (freeB K U y = true ∧ (Mf K U y).length < i) := fun ⟨q1, q2⟩ => by omega
      have e := cnt_eq O hSU h.nd h.mem hyK
      obtain ⟨j, hj, hfj, hm, hjl⟩ := top_ex O hyK hf (fun q => by rw [q] at hl; simp at hl)
      have hpos : 0 < eqN K U i y := by
        unfold eqN
        refine List.length_pos_of_mem (a := j) (List.mem_filter.mpr ⟨hj, ?_⟩)
        simp only [Bool.and_eq_true, decide_eq_true_eq]
        exact ⟨hfj, by omega⟩
      refine ⟨hg, by rw [e]; exact hpos, ?_⟩
      rw [val1 y hyK hg hnf, e]
      have l1 := low_succ (K := K) (U := U) i y
      have l2 : lowN K U (i + 1) y = (Mf K U y).length := by
        unfold lowN
        rw [List.length_filter_eq_length_iff]
        intro x hx
        have := free_lt O hyK hf hx
        simp only [Bool.and_eq_true, decide_eq_true_eq]
        exact ⟨(free_sub O hyK hf hx).1, by omega⟩
      omega
end
end
end
section
open F1 G5 G6 G7 G8 GB
def descM (K : List Str) (U : Str → Str → Bool) (k : Str) : List Str := (Mf K U k).mergeSort fun a b => decide (b.length ≤ a.length)
def rtL (l : List Int) : Int := l.foldr madeF 0
def RTf (K : List Str) (U : Str → Str → Bool) (MD : Str → Int) (k : Str) : Int := rtL ((k :: descM K U k).map MD)
def maxL (l : List Nat) : Nat := l.foldr Nat.max 0
theorem maxL_le : ∀ {l : List Nat} {x : Nat}, x ∈ l → x ≤ maxL l
  | a :: r, x, h => by
    show x ≤ Nat.max a (maxL r)
    rcases List.mem_cons.mp h with rfl | h
    · exact Nat.le_max_left _ _
    · exact Nat.le_trans (maxL_le h) (Nat.le_max_right _ _)
theorem maxL_mem : ∀ {l : List Nat}, maxL l ≠ 0 → maxL l ∈ l
  | [], h => absurd rfl h
  | a :: r, h => by
    have e : maxL (a :: r) = Nat.max a (maxL r) := rfl
    rw [e]
    by_cases q : maxL r ≤ a
    · rw [show Nat.max a (maxL r) = a from Nat.max_eq_left q]; simp
    · rw [show Nat.max a (maxL r) = maxL r from Nat.max_eq_right (by omega)]
      exact List.mem_cons_of_mem _ (maxL_mem (by omega))
def nR (K : List Str) (U : Str → Str → Bool) : Nat := maxL ((K.filter (freeB K U)).map fun k => (Mf K U k).length + 1)
section
variable {K : List Str} {U : Str → Str → Bool}
theorem nR_lt {y : Str} (hy : y ∈ K) (hf : freeB K U y = true) : (Mf K U y).length < nR K U :=
  maxL_le (List.mem_map.mpr ⟨y, List.mem_filter.mpr ⟨hy, hf⟩, rfl⟩)
theorem nR_ex (h : nR K U ≠ 0) : ∃ y ∈ K, freeB K U y = true ∧ (Mf K U y).length + 1 = nR K U := by
  obtain ⟨y, hy, e⟩ := List.mem_map.mp (maxL_mem h)
  obtain ⟨h1, h2⟩ := List.mem_filter.mp hy
  exact ⟨y, h1, h2, e⟩
theorem M_len (k : Str) : (Mf K U k).length ≤ K.length := List.length_filter_le _ _
theorem len_inj (O : OrdU K U) {k a b : Str} (hk : k ∈ K) (hf : freeB K U k = true) (ha : a ∈ Mf K U k) (hb : b ∈ Mf K U k) (h : a.length = b.length) : a = b := by
  by_cases e : a = b
  · exact e
  obtain ⟨a1, _, a3⟩ := mem_M.mp ha
  obtain ⟨b1, _, b3⟩ := mem_M.mp hb
  have fa := (free_sub O hk hf ha).1
  have fb := (free_sub O hk hf hb).1
  rcases O.ch k hk a a1 b b1 a3 b3 with q | q
  · have := O.lt a a1 b b1 q (free_anti a1 fa b1 (Ne.symm e) q); omega
  · have := O.lt b b1 a a1 q (free_anti b1 fb a1 e q); omega
theorem desc_perm (k : Str) : (descM K U k).Perm (Mf K U k) := List.mergeSort_perm _ _
theorem desc_ord (k : Str) : OrdL true (descM K U k) := by
  have := List.pairwise_mergeSort (le := fun a b : Str => decide (b.length ≤ a.length)) (fun a b c h1 h2 => by simp at h1 h2 ⊢; omega) (fun a b => by simp; omega) (Mf K U k)
  refine List.Pairwise.imp (fun {a b} h => ?_) this
  simpa using h
theorem desc_uniq (O : OrdU K U) {k : Str} {ss : List Str} (hk : k ∈ K) (hf : freeB K U k = true) (hp : ss.Perm (Mf K U k)) (ho : OrdL true ss) : ss = descM K U k := by
  refine List.Perm.eq_of_pairwise (fun a b ha hb h1 h2 => ?_) ho (desc_ord k) (hp.trans (desc_perm k).symm)
  simp only [if_true] at h1 h2
  exact len_inj O hk hf (hp.mem_iff.mp ha) ((desc_perm k).mem_iff.mp hb) (by omega)
theorem desc_cons (O : OrdU K U) {k j : Str} (hk : k ∈ K) (hf : freeB K U k = true) (hj : j ∈ Mf K U k) (hm : ∀ x, x ∈ Mf K U k ↔ x = j ∨ x ∈ Mf K U j) : descM K U k = j :: descM K U j := by
  have hfj := (free_sub O hk hf hj).1
  have hjK := (mem_M.mp hj).1
  refine (desc_uniq O hk hf ?_ ?_).symm
  · refine ((desc_perm j).cons j).trans ((List.perm_ext_iff_of_nodup (List.nodup_cons.mpr ⟨not_self, M_nd O j⟩) (M_nd O k)).mpr fun x => ?_)
    rw [hm x]; simp
  · refine List.pairwise_cons.mpr ⟨fun x hx => ?_, desc_ord j⟩
    obtain ⟨x1, x2, x3⟩ := mem_M.mp ((desc_perm j).mem_iff.mp hx)
    have := O.lt j hjK x x1 x3 (free_anti hjK hfj x1 x2 x3)
    simp only [if_true]; omega
theorem last_top (O : OrdU K U) {k j a : Str} {p : List Str} (hk : k ∈ K) (hf : freeB K U k = true) (hj : j ∈ Mf K U k) (hm : ∀ x, x ∈ Mf K U k ↔ x = j ∨ x ∈ Mf K U j) (hp : (p ++ [a]).Perm (Mf K U k)) (ho : OrdL false (p ++ [a])) : a = j := by
  have hfj := (free_sub O hk hf hj).1
  have hjK := (mem_M.mp hj).1
  have ha : a ∈ Mf K U k := hp.mem_iff.mp (by simp)
  rcases (hm a).mp ha with h | h
  · exact h
  · obtain ⟨x1, x2, x3⟩ := mem_M.mp h
    have h1 := O.lt j hjK a x1 x3 (free_anti hjK hfj x1 x2 x3)
    have hjp : j ∈ p ++ [a] := hp.mem_iff.mpr hj
    rcases List.mem_append.mp hjp with h2 | h2
    · have := (List.pairwise_append.mp ho).2.2 j h2 a (by simp)
      simp at this; omega
    · simp at h2; exact h2.symm
theorem su_mem {g y : Str} : y ∈ suAt (Mf K U) K g ↔ y ∈ K ∧ g ∈ Mf K U y := by simp [suAt]
theorem rnd_zero (O : OrdU K U) {KN : List Str} (hn : KN.Nodup) (hm : ∀ y, y ∈ KN ↔ y ∈ K) : RndOk K U 0 (npAt (Mf K U) K, KN.filter fun k => decide (npAt (Mf K U) K k = 0)) := by
  refine ⟨fun y hy => ?_, nodup_filter _ hn, fun y => ?_⟩
  · have : lowN K U 0 y = 0 := by
      unfold lowN
      rw [List.length_eq_zero_iff, List.filter_eq_nil_iff]
      intro x _; simp
    rw [this, if_neg (by omega)]
    simp [npAt, hy]
  · simp only [List.mem_filter, decide_eq_true_eq]
    constructor
    · rintro ⟨h1, h2⟩
      have hy := (hm y).mp h1
      have h3 : (Mf K U y).length = 0 := by simpa [npAt, hy] using h2
      have h4 : Mf K U y = [] := List.length_eq_zero_iff.mp h3
      exact ⟨hy, free_of (fun x hx => by rw [h4] at hx; cases hx) hy, h3⟩
    · rintro ⟨h1, _, h3⟩
      exact ⟨(hm y).mpr h1, by simp [npAt, h1, h3]⟩
abbrev stK (K : List Str) (U : Str → Str → Bool) (KN : List Str) (i : Nat) : (Str → Int) × List Str := stR (suAt (Mf K U) K) (npAt (Mf K U) K) (KN.filter fun k => decide (npAt (Mf K U) K k = 0)) i
theorem rnd_all (O : OrdU K U) {KN : List Str} (hn : KN.Nodup) (hm : ∀ y, y ∈ KN ↔ y ∈ K) : ∀ i, RndOk K U i (stK K U KN i)
  | 0 => rnd_zero O hn hm
  | i + 1 => rnd_step O (fun g y => su_mem) (fun g => nodup_filter _ O.nd) (rnd_all O hn hm i)
theorem sched (O : OrdU K U) {KN : List Str} (hn : KN.Nodup) (hm : ∀ y, y ∈ KN ↔ y ∈ K) (hl : K.length ≤ 20) (MD : Str → Int) :
    RunOk KN (suAt (Mf K U) K) (Mf K U) MD (RTf K U MD) (npAt (Mf K U) K) (fun i => (stK K U KN i).2) (fun i => (stK K U KN i).1) (nR K U) := by
  have R := rnd_all O hn hm
  have hlen : ∀ i, (stK K U KN i).2.length ≤ 20 := fun i => Nat.le_trans (nodup_le (R i).nd fun a ha => (((R i).mem a).mp ha).1) hl
  refine ⟨rfl, fun i _ => rfl, fun i hi => ?_, ?_, fun i hi j y hy => ?_, fun i hi k hk => (hm k).mpr (((R i).mem k).mp hk).1, fun i _ => hlen i, fun i hi k hk ss hp ho => ?_, ?_⟩
  · obtain ⟨y, h1, h2, h3⟩ := nR_ex (K := K) (U := U) (by omega)
    obtain ⟨j, j1, j2, j3⟩ := sizes_all O (Mf K U y).length h1 h2 rfl i (by omega)
    exact List.ne_nil_of_mem (((R i).mem j).mpr ⟨j1, j2, j3⟩)
  · refine List.eq_nil_iff_forall_not_mem.mpr fun y hy => ?_
    obtain ⟨h1, h2, h3⟩ := ((R _).mem y).mp hy
    have := nR_lt h1 h2
    omega
  · have hE := no_edge O (SU := suAt (Mf K U) K) (fun g y => su_mem) (R i).mem
    have hyG : y ∈ (stK K U KN i).2 := List.mem_of_getElem? hy
    have hsub : ∀ x ∈ (stK K U KN i).2.take j, x ∈ (stK K U KN i).2 := fun x hx => List.mem_of_mem_take hx
    have hyt : y ∉ (stK K U KN i).2.take j := fun hq => by
      have h2 : ((stK K U KN i).2.take (j + 1)).Nodup := (List.take_sublist _ _).nodup (R i).nd
      rw [List.take_add_one, hy, List.nodup_append] at h2
      exact h2.2.2 y hq y (by simp) rfl
    have := (dall_fold (SU := suAt (Mf K U) K) (fun g => nodup_filter _ O.nd) ((stK K U KN i).2.take j) ((List.take_sublist _ _).nodup (R i).nd) (fun g hg g' hg' => hE g (hsub g hg) g' (hsub g' hg')) (outNP (stK K U KN i).1 (stK K U KN i).2) []).1 y
    rw [this, if_neg hyt]
    have c0 : cntG (suAt (Mf K U) K) ((stK K U KN i).2.take j) y = 0 := by
      unfold cntG
      rw [List.length_eq_zero_iff, List.filter_eq_nil_iff]
      intro x hx
      simpa using hE x (hsub x hx) y hyG
    rw [c0]
    show (if y ∈ (stK K U KN i).2 then (-1 : Int) else _) - _ = _
    rw [if_pos hyG]; rfl
  · obtain ⟨hkK, hf, hkl⟩ := ((R i).mem k).mp hk
    by_cases h0 : Mf K U k = []
    · left
      rw [h0] at hp
      refine ⟨hp.eq_nil, ?_⟩
      have : descM K U k = [] := by
        have := desc_perm (K := K) (U := U) k
        rw [h0] at this
        exact this.eq_nil
      unfold RTf rtL
      rw [this]; rfl
    · right
      obtain ⟨j, hj, hfj, hmj, hjl⟩ := top_ex O hkK hf h0
      have hne : ss ≠ [] := fun e => h0 (by rw [e] at hp; exact hp.symm.eq_nil)
      obtain ⟨p, a, rfl⟩ : ∃ p a, ss = p ++ [a] := ⟨ss.dropLast, ss.getLast hne, (List.dropLast_concat_getLast hne).symm⟩
      have ha := last_top O hkK hf hj hmj hp ho
      subst ha
      refine ⟨p, a, rfl, ⟨(Mf K U a).length, by omega, ((R _).mem a).mpr ⟨(mem_M.mp hj).1, hfj, rfl⟩⟩, ?_⟩
      unfold RTf
      rw [desc_cons O hkK hf hj hmj]
      rfl
  · by_cases h0 : nR K U = 0
    · omega
    · obtain ⟨y, h1, h2, h3⟩ := nR_ex h0
      have h4 : (y :: Mf K U y).length ≤ K.length := nodup_le (List.nodup_cons.mpr ⟨not_self, M_nd O y⟩) fun a ha => by
        rcases List.mem_cons.mp ha with rfl | ha
        · exact h1
        · exact (mem_M.mp ha).1
      simp only [List.length_cons] at h4
      omega
end
end
section
open F1 F2 FM FL
theorem and_half (x y : Int) : Builtin.bitAnd x y / 2 = Builtin.bitAnd (x / 2) (y / 2) ∧ Builtin.bitAnd x y % 2 = (x % 2) * (y % 2) := by
  have h := kbt_halves x y
  have hx : x % 2 = 0 ∨ x % 2 = 1 := by omega
  have hy : y % 2 = 0 ∨ y % 2 = 1 := by omega
  rcases hx with hx | hx <;> rcases hy with hy | hy <;> simp only [hx, hy] at h ⊢ <;> simp at h <;> omega
theorem or_half (x y : Int) : Builtin.bitOr x y / 2 = Builtin.bitOr (x / 2) (y / 2) ∧ Builtin.bitOr x y % 2 = x % 2 + y % 2 - (x % 2) * (y % 2) := by
  have h := kbt_halves x y
  have h1 := bitOr_and x y
  have h2 := bitOr_and (x / 2) (y / 2)
  have hx : x % 2 = 0 ∨ x % 2 = 1 := by omega
  have hy : y % 2 = 0 ∨ y % 2 = 1 := by omega
  rcases hx with hx | hx <;> rcases hy with hy | hy <;> simp only [hx, hy] at h ⊢ <;> simp at h <;> omega
theorem xor_half (x y : Int) : Builtin.bitXor x y / 2 = Builtin.bitXor (x / 2) (y / 2) ∧ Builtin.bitXor x y % 2 = (x % 2 + y % 2) % 2 := by
  have h := kbt_halves x y
  have h1 := bitXor_and x y
  have h2 := bitXor_and (x / 2) (y / 2)
  have hx : x % 2 = 0 ∨ x % 2 = 1 := by omega
  have hy : y % 2 = 0 ∨ y % 2 = 1 := by omega
  rcases hx with hx | hx <;> rcases hy with hy | hy <;> simp only [hx, hy] at h ⊢ <;> simp at h <;> omega
theorem div_succ (x : Int) (k : Nat) : x / 2 ^ (k + 1) = x / 2 / 2 ^ k := by
  rw [Int.pow_succ, Int.mul_comm, Int.ediv_ediv_of_nonneg (by decide)]
theorem and_div (k : Nat) : ∀ x y : Int, Builtin.bitAnd x y / 2 ^ k = Builtin.bitAnd (x / 2 ^ k) (y / 2 ^ k) := by
  induction k with
  | zero => intro x y; simp
  | succ k ih => intro x y; rw [div_succ, (and_half x y).1, ih, ← div_succ, ← div_succ]
theorem or_div (k : Nat) : ∀ x y : Int, Builtin.bitOr x y / 2 ^ k = Builtin.bitOr (x / 2 ^ k) (y / 2 ^ k) := by
  induction k with
  | zero => intro x y; simp
  | succ k ih => intro x y; rw [div_succ, (or_half x y).1, ih, ← div_succ, ← div_succ]
theorem xor_div (k : Nat) : ∀ x y : Int, Builtin.bitXor x y / 2 ^ k = Builtin.bitXor (x / 2 ^ k) (y / 2 ^ k) := by
  induction k with
  | zero => intro x y; simp
  | succ k ih => intro x y; rw [div_succ, (xor_half x y).1, ih, ← div_succ, ← div_succ]
def bt (k : Nat) (x : Int) : Int := x / 2 ^ k % 2
theorem bt01 (k : Nat) (x : Int) : bt k x = 0 ∨ bt k x = 1 := by unfold bt; omega
theorem bt_and (k : Nat) (x y : Int) : bt k (Builtin.bitAnd x y) = bt k x * bt k y := by unfold bt; rw [and_div, (and_half _ _).2]
theorem bt_or (k : Nat) (x y : Int) : bt k (Builtin.bitOr x y) = bt k x + bt k y - bt k x * bt k y := by unfold bt; rw [or_div, (or_half _ _).2]
theorem bt_xor (k : Nat) (x y : Int) : bt k (Builtin.bitXor x y) = (bt k x + bt k y) % 2 := by unfold bt; rw [xor_div, (xor_half _ _).2]
theorem own_mod (n : Int) : Builtin.bitAnd n 4095 = n % 4096 := kbt_mask n 12
theorem bt_all : ∀ k, k < 12 → bt k 4095 = 1 := by unfold bt; decide
theorem bt_mod {k : Nat} (h : k < 12) (n : Int) : bt k (n % 4096) = bt k n := by
  rw [← own_mod, bt_and, bt_all k h, Int.mul_one]
theorem bt_neg (k : Nat) (n : Int) : bt k (-n - 1) = 1 - bt k n := by
  unfold bt
  rw [(kbt_below n (kbt_pos k)).1]
  generalize (-n - 1) / 2 ^ k = q
  omega
theorem bt_co {k : Nat} (h : k < 12) (n : Int) : bt k (4095 - n % 4096) = 1 - bt k n := by
  rw [← bt_neg, ← bt_mod h (-n - 1)]
  congr 1
  omega
theorem and_e (x y : Int) : Builtin.bitAnd x (2 * y) = 2 * Builtin.bitAnd (x / 2) y := by
  have h := and_half x (2 * y)
  rw [show 2 * y / 2 = y by omega, show 2 * y % 2 = 0 by omega] at h
  omega
theorem and_o (x y : Int) : Builtin.bitAnd x (2 * y + 1) = 2 * Builtin.bitAnd (x / 2) y + x % 2 := by
  have h := and_half x (2 * y + 1)
  rw [show (2 * y + 1) / 2 = y by omega, show (2 * y + 1) % 2 = 1 by omega] at h
  omega
theorem and_sh (k : Nat) : ∀ x y : Int, Builtin.bitAnd x (2 ^ k * y) = 2 ^ k * Builtin.bitAnd (x / 2 ^ k) y := by
  induction k with
  | zero => intro x y; simp
  | succ k ih =>
    intro x y
    rw [show (2 : Int) ^ (k + 1) * y = 2 * (2 ^ k * y) by rw [Int.pow_succ, Int.mul_comm (2 ^ k) 2, Int.mul_assoc], and_e, ih, div_succ, Int.pow_succ, Int.mul_comm (2 ^ k) 2, Int.mul_assoc]
theorem kind_eq (n : Int) : Builtin.bitAnd n 61440 = n / 4096 % 16 * 4096 := by
  have h := and_sh 12 n 15
  rw [show (2 : Int) ^ 12 * 15 = 61440 by decide] at h
  rw [h, show (2 : Int) ^ 12 = 4096 by decide, bitAnd_m4]
  omega
def Rg (x : Int) : Prop := 0 ≤ x ∧ x < 4096
theorem rg_iff (x : Int) : Rg x ↔ x / 2 ^ 12 = 0 := by unfold Rg; simp only [Int.reducePow]; omega
theorem rg_and {x y : Int} (hx : Rg x) (hy : Rg y) : Rg (Builtin.bitAnd x y) := by
  rw [rg_iff] at *; rw [and_div, hx, hy]; rfl
theorem rg_or {x y : Int} (hx : Rg x) (hy : Rg y) : Rg (Builtin.bitOr x y) := by
  rw [rg_iff] at *; rw [or_div, hx, hy]; rfl
theorem rg_xor {x y : Int} (hx : Rg x) (hy : Rg y) : Rg (Builtin.bitXor x y) := by
  rw [rg_iff] at *; rw [xor_div, hx, hy]; rfl
theorem made_rg (n : Int) {r : Int} (hr : Rg r) : Rg (madeF n r) := by
  have ho : Rg (n % 4096) := by unfold Rg; omega
  have hc : Rg (4095 - n % 4096) := by unfold Rg; omega
  unfold madeF
  simp only [own_mod]
  repeat' split
  · exact rg_or hr ho
  · exact rg_and hr ho
  · exact rg_xor hr ho
  · exact rg_and hr hc
  · exact rg_or hr hc
  · exact ho
  · exact hr
  · exact ⟨by decide, by decide⟩
theorem rtL_rg : ∀ l : List Int, Rg (rtL l)
  | [] => ⟨by decide, by decide⟩
  | n :: r => made_rg n (rtL_rg r)
theorem made_bt {k : Nat} (hk : k < 12) (n r : Int) : bt k (madeF n r) =
    if n / 4096 % 16 = 4 then bt k r + bt k n - bt k r * bt k n else if n / 4096 % 16 = 8 then bt k r * bt k n else if n / 4096 % 16 = 2 then (bt k r + bt k n) % 2
    else if n / 4096 % 16 = 6 then bt k r * (1 - bt k n) else if n / 4096 % 16 = 12 then bt k r + (1 - bt k n) - bt k r * (1 - bt k n) else if n / 4096 % 16 = 1 then bt k n else if n / 4096 % 16 = 10 then bt k r else 0 := by
  unfold madeF
  simp only [own_mod, kind_eq, beq_iff_eq]
  generalize n / 4096 % 16 = K
  have e : ∀ c : Int, (K * 4096 = c * 4096) = (K = c) := fun c => by simp only [eq_iff_iff]; omega
  have e4 := e 4; have e8 := e 8; have e2 := e 2; have e6 := e 6; have e12 := e 12; have e1 := e 1; have e10 := e 10
  simp only [Int.reduceMul] at e4 e8 e2 e6 e12 e1 e10
  simp only [e4, e8, e2, e6, e12, e1, e10]
  repeat' split
  · rw [bt_or, bt_mod hk]
  · rw [bt_and, bt_mod hk]
  · rw [bt_xor, bt_mod hk]
  · rw [bt_and, bt_co hk]
  · rw [bt_or, bt_co hk]
  · rw [bt_mod hk]
  · rfl
  · unfold bt
    rw [Int.zero_ediv]; rfl
def stpB (K h t b : Int) : Int :=
  if (K == 4 && h == 1 || K == 12 && h == 0) = true then 1 - t
  else if (K == 8 && h == 0 || (K == 6 && h == 1 || !([1, 2, 4, 6, 8, 10, 12].any (· == K)))) = true then t
  else if (K == 1) = true then (h + t).fmod 2
  else if (K == 2) = true then (b + (t + h).fmod 2) % 2
  else (b + t) % 2
def mdB (K h b : Int) : Int :=
  if K = 4 then b + h - b * h else if K = 8 then b * h else if K = 2 then (b + h) % 2
    else if K = 6 then b * (1 - h) else if K = 12 then b + (1 - h) - b * (1 - h) else if K = 1 then h else if K = 10 then b else 0
theorem stp_ok : ∀ (K : Fin 16) (h t b : Fin 2), stpB (K : Nat) (h : Nat) (t : Nat) (b : Nat) = (mdB (K : Nat) (h : Nat) (b : Nat) + (t : Nat)) % 2 := by decide +kernel
theorem bit_rt {k : Nat} (hk : k < 12) : ∀ (l : List Int) (t : Int), (t = 0 ∨ t = 1) → bitF (k : Int) l t = (bt k (rtL l) + t) % 2
  | [], t, ht => by
    have : bt k (rtL []) = 0 := by unfold bt rtL; rw [List.foldr_nil, Int.zero_ediv]; rfl
    rw [this]
    unfold bitF
    rcases ht with rfl | rfl <;> rfl
  | n :: r, t, ht => by
    have e1 : (n.fdiv 4096).fmod 16 = n / 4096 % 16 := by rw [Int.fdiv_eq_ediv_of_nonneg _ (by decide), Int.fmod_eq_emod_of_nonneg _ (by decide)]
    have e2 : (n.fdiv (2 ^ (k : Int).toNat)).fmod 2 = bt k n := by
      rw [Int.toNat_natCast, Int.fdiv_eq_ediv_of_nonneg _ (Int.le_of_lt (kbt_pos k)), Int.fmod_eq_emod_of_nonneg _ (by decide)]; rfl
    have e3 : bt k (rtL (n :: r)) = mdB (n / 4096 % 16) (bt k n) (bt k (rtL r)) := made_bt hk n (rtL r)
    have hb := bt01 k n
    have hr := bt01 k (rtL r)
    have ht2 : (t + bt k n).fmod 2 = 0 ∨ (t + bt k n).fmod 2 = 1 := by
      rw [Int.fmod_eq_emod_of_nonneg _ (by decide)]; omega
    have e4 : bitF (k : Int) (n :: r) t = stpB (n / 4096 % 16) (bt k n) t (bt k (rtL r)) := by
      rw [bitF, e1, e2, bit_rt hk r t ht, bit_rt hk r _ ht2]
      rfl
    rw [e4, e3]
    have hK0 : 0 ≤ n / 4096 % 16 := Int.emod_nonneg _ (by decide)
    have hK1 : n / 4096 % 16 < 16 := Int.emod_lt_of_pos _ (by decide)
    generalize n / 4096 % 16 = K at hK0 hK1
    generalize bt k n = h at hb
    generalize bt k (rtL r) = b at hr
    obtain ⟨K, rfl⟩ := Int.eq_ofNat_of_zero_le hK0
    have f : ∀ {x : Int}, (x = 0 ∨ x = 1) → ∃ y : Fin 2, x = (y : Nat) := fun h => h.elim (fun e => ⟨0, e⟩) fun e => ⟨1, e⟩
    obtain ⟨h, rfl⟩ := f hb
    obtain ⟨b, rfl⟩ := f hr
    obtain ⟨t, rfl⟩ := f ht
    exact stp_ok ⟨K, by omega⟩ h t b
end
section
open F1 F2 FM FL
theorem hit_one (y : Int) (k : Nat) : (Builtin.bitAnd y (2 ^ k) == 2 ^ k) = decide (bt k y = 1) := by
  rw [kbt_bit]
  have hp := kbt_pos k
  rcases bt01 k y with h | h <;> (unfold bt at h ⊢; rw [h])
  · simp; omega
  · simp
theorem and_two (y : Int) (a c : Nat) : Builtin.bitAnd y (2 ^ a * (2 * 2 ^ c + 1)) = 2 ^ a * (2 * (2 ^ c * bt (a + 1 + c) y) + bt a y) := by
  rw [and_sh, and_o, kbt_bit]
  unfold bt
  have e : y / 2 ^ a / 2 / 2 ^ c = y / 2 ^ (a + 1 + c) := by
    rw [Int.ediv_ediv_of_nonneg (Int.le_of_lt (kbt_pos a)), ← Int.pow_succ, Int.ediv_ediv_of_nonneg (Int.le_of_lt (kbt_pos _)), ← Int.pow_add]
  rw [e, Int.mul_comm (2 ^ c)]
theorem hit_two (y : Int) (a c : Nat) : (Builtin.bitAnd y (2 ^ a * (2 * 2 ^ c + 1)) == 2 ^ a * (2 * 2 ^ c + 1)) = (decide (bt (a + 1 + c) y = 1) && decide (bt a y = 1)) := by
  rw [and_two]
  have hp := kbt_pos a
  have hc := kbt_pos c
  have hm : ∀ u v : Int, (2 ^ a * u == 2 ^ a * v) = decide (u = v) := fun u v => by
    by_cases e : u = v
    · subst e; simp
    · simp only [e, decide_false, beq_eq_false_iff_ne, ne_eq]
      exact fun q => e (Int.eq_of_mul_eq_mul_left (by omega) q)
  rw [hm]
  rcases bt01 (a + 1 + c) y with h | h <;> rcases bt01 a y with h' | h' <;> rw [h, h'] <;> simp <;> omega
theorem hit1 {y : Int} {i : Nat} (hi : i ≠ 0) (k : Nat) {v : Int} (hv : v = 2 ^ k) (c : Str) : hitM y i (v, c) = decide (bt k y = 1) := by
  unfold hitM
  rw [if_neg hi, hv]
  exact hit_one y k
theorem hit2 {y : Int} {i : Nat} (hi : i ≠ 0) (a c : Nat) {v : Int} (hv : v = 2 ^ a * (2 * 2 ^ c + 1)) (x : Str) : hitM y i (v, x) = (decide (bt (a + 1 + c) y = 1) && decide (bt a y = 1)) := by
  unfold hitM
  rw [if_neg hi, hv]
  exact hit_two y a c
theorem row1 {y : Int} {i : Nat} (hi : i ≠ 0) (k : Nat) {v : Int} (hv : v = 2 ^ k) (c : Str) : fmRow y i [(v, c)] = if bt k y != 0 then c else "-" := by
  unfold fmRow
  rw [List.find?_cons, hit1 hi k hv]
  rcases bt01 k y with h | h <;> simp [h, hi]
theorem row3 {y : Int} {i : Nat} (hi : i ≠ 0) (a c : Nat) {v1 v2 v3 : Int} (h1 : v1 = 2 ^ a * (2 * 2 ^ c + 1)) (h2 : v2 = 2 ^ (a + 1 + c)) (h3 : v3 = 2 ^ a) (s1 s2 s3 : Str) {X : Str}
    (e0 : Txt.item X 0 = "-") (e1 : Txt.item X 1 = s3) (e2 : Txt.item X 2 = s2) (e3 : Txt.item X 3 = s1) : fmRow y i [(v1, s1), (v2, s2), (v3, s3)] = Txt.item X (2 * bt (a + 1 + c) y + bt a y) := by
  unfold fmRow
  rw [List.find?_cons, hit2 hi a c h1, List.find?_cons, hit1 hi _ h2, List.find?_cons, hit1 hi _ h3]
  rcases bt01 (a + 1 + c) y with h | h <;> rcases bt01 a y with h' | h' <;> rw [h, h'] <;> simp [hi, e0, e1, e2, e3]
theorem row0 (y : Int) : fmRow y 0 [(40960, "l"), (49152, "s"), (32768, "-"), (24576, "b"), (16384, "d"), (8192, "c"), (4096, "p")] = sgn (y / 4096 % 16) := by
  have hh : ∀ (c : Int) (x : Str), hitM y 0 (c * 4096, x) = decide (y / 4096 % 16 = c) := fun c x => by
    unfold hitM
    rw [if_pos rfl, kind_eq]
    by_cases e : y / 4096 % 16 = c
    · simp [e]
    · simp only [e, decide_false, beq_eq_false_iff_ne, ne_eq]; omega
  have h10 := hh 10 "l"; have h12 := hh 12 "s"; have h8 := hh 8 "-"; have h6 := hh 6 "b"; have h4 := hh 4 "d"; have h2 := hh 2 "c"; have h1 := hh 1 "p"
  simp only [Int.reduceMul] at h10 h12 h8 h6 h4 h2 h1
  unfold fmRow
  rw [List.find?_cons, h10, List.find?_cons, h12, List.find?_cons, h8, List.find?_cons, h6, List.find?_cons, h4, List.find?_cons, h2, List.find?_cons, h1, List.find?_nil]
  generalize y / 4096 % 16 = k
  unfold sgn
  by_cases e10 : k = 10
  · subst e10; rfl
  by_cases e12 : k = 12
  · subst e12; rfl
  by_cases e8 : k = 8
  · subst e8; rfl
  by_cases e6 : k = 6
  · subst e6; rfl
  by_cases e4 : k = 4
  · subst e4; rfl
  by_cases e2 : k = 2
  · subst e2; rfl
  by_cases e1 : k = 1
  · subst e1; rfl
  simp [e10, e12, e8, e6, e4, e2, e1]
theorem app_empty (x : Str) : x ++ (("" : String) : Str) = x := by
  obtain ⟨c⟩ := x
  show Str.mk (c ++ (Str.ofString "").cps) = _
  rw [show (Str.ofString "").cps = #[] by rfl, Array.append_empty]
theorem app_assoc (x y z : Str) : x ++ y ++ z = x ++ (y ++ z) := by
  obtain ⟨a⟩ := x; obtain ⟨b⟩ := y; obtain ⟨c⟩ := z
  show Str.mk (a ++ b ++ c) = Str.mk (a ++ (b ++ c))
  rw [Array.append_assoc]
theorem join_empty : ∀ (a : Str) (l : List Str), Txt.join "" (a :: l) = l.foldl (· ++ ·) a
  | a, [] => rfl
  | a, b :: l => by
    have ih := join_empty b l
    unfold Txt.join at ih ⊢
    rw [StrLaws.glued_eq_join] at ih ⊢
    show a ++ (("" : String) : Str) ++ Str.join "" (b :: l) = l.foldl (· ++ ·) (a ++ b)
    rw [app_empty, ih]
    have : ∀ (l : List Str) (a b : Str), a ++ l.foldl (· ++ ·) b = l.foldl (· ++ ·) (a ++ b) := by
      intro l
      induction l with
      | nil => intro a b; rfl
      | cons c l ih => intro a b; rw [List.foldl_cons, List.foldl_cons, ih, app_assoc]
    exact this l a b
theorem bt_low {k : Nat} (hk : k < 12) {x r : Int} (hr : Rg r) : bt k (x - Builtin.bitAnd x 4095 + r) = bt k r := by
  rw [own_mod]
  have e : (x - x % 4096 + r) % 4096 = r := by obtain ⟨h1, h2⟩ := hr; omega
  rw [← bt_mod hk, e]
theorem listing_law (x : Int) (ns : List Int) : fmF (x - Builtin.bitAnd x 4095 + rtL ns) = lsF x ns 3 := by
  have hr := rtL_rg ns
  have hb : ∀ k, k < 12 → bt k (x - Builtin.bitAnd x 4095 + rtL ns) = bitF (k : Int) ns 0 := fun k hk => by
    rw [bt_low hk hr, bit_rt hk ns 0 (.inl rfl)]
    have := bt01 k (rtL ns)
    omega
  have hk0 : (x - Builtin.bitAnd x 4095 + rtL ns) / 4096 % 16 = (x.fdiv 4096).fmod 16 := by
    rw [own_mod, Int.fdiv_eq_ediv_of_nonneg _ (by decide), Int.fmod_eq_emod_of_nonneg _ (by decide)]
    obtain ⟨h1, h2⟩ := hr
    omega
  generalize x - Builtin.bitAnd x 4095 + rtL ns = y at hb hk0
  have b0 := hb 0 (by decide); have b1 := hb 1 (by decide); have b2 := hb 2 (by decide); have b3 := hb 3 (by decide); have b4 := hb 4 (by decide); have b5 := hb 5 (by decide)
  have b6 := hb 6 (by decide); have b7 := hb 7 (by decide); have b8 := hb 8 (by decide); have b9 := hb 9 (by decide); have b10 := hb 10 (by decide); have b11 := hb 11 (by decide)
  unfold fmF
  have e : fmL y = [fmRow y 0 [(40960, "l"), (49152, "s"), (32768, "-"), (24576, "b"), (16384, "d"), (8192, "c"), (4096, "p")], fmRow y 1 [(256, "r")], fmRow y 2 [(128, "w")], fmRow y 3 [(2112, "s"), (2048, "S"), (64, "x")],
    fmRow y 4 [(32, "r")], fmRow y 5 [(16, "w")], fmRow y 6 [(1032, "s"), (1024, "S"), (8, "x")], fmRow y 7 [(4, "r")], fmRow y 8 [(2, "w")], fmRow y 9 [(513, "t"), (512, "T"), (1, "x")]] := rfl
  rw [e, join_empty]
  rw [row0, row1 (by decide) 8 (by decide), row1 (by decide) 7 (by decide), row3 (X := third 0) (by decide) 6 4 (by decide) (by decide) (by decide) _ _ _ (by decide) (by decide) (by decide) (by decide)]
  rw [row1 (by decide) 5 (by decide), row1 (by decide) 4 (by decide), row3 (X := third 1) (by decide) 3 6 (by decide) (by decide) (by decide) _ _ _ (by decide) (by decide) (by decide) (by decide)]
  rw [row1 (by decide) 2 (by decide), row1 (by decide) 1 (by decide), row3 (X := third 2) (by decide) 0 8 (by decide) (by decide) (by decide) _ _ _ (by decide) (by decide) (by decide) (by decide)]
  simp only [Nat.reduceAdd] at *
  rw [hk0, b0, b1, b2, b3, b4, b5, b6, b7, b8, b9, b10, b11]
  simp only [List.foldl, lsF]
  rfl
end
section
open F1 F2 F3 F4 F5 F6
def undP (a b : P1) : Prop := a = b ∨ (b.1 = true ∧ b.2.getLast? ≠ some 55 ∧ b.2.length + 1 ≤ a.2.length + (if a.1 then 1 else 0) ∧ b.2 <:+ a.2)
theorem drop_suffix {l1 l2 : List Nat} (h : l2.length ≤ l1.length) : l1.drop (l1.length - l2.length) = l2 ↔ l2 <:+ l1 := by
  constructor
  · intro e; rw [← e]; exact List.drop_suffix _ _
  · rintro ⟨t, rfl⟩; simp
theorem und_iff (a b : P1) : underP a b = true ↔ undP a b := by
  obtain ⟨d1, l1⟩ := a
  obtain ⟨d2, l2⟩ := b
  unfold underP undP
  simp only [Bool.or_eq_true, Bool.and_eq_true, beq_iff_eq, bne_iff_ne, ne_eq, decide_eq_true_eq, Prod.mk.injEq]
  constructor
  · rintro (h | ⟨h1, h2, h3, h4⟩)
    · exact .inl h
    · refine .inr ⟨h1, h2, h3, (drop_suffix ?_).mp h4⟩
      cases d1 <;> simp at h3 <;> omega
  · rintro (h | ⟨h1, h2, h3, h4⟩)
    · exact .inl h
    · exact .inr ⟨h1, h2, h3, (drop_suffix h4.length_le).mpr h4⟩
theorem und_tr {a b c : P1} (h1 : undP a b) (h2 : undP b c) : undP a c := by
  rcases h1 with rfl | ⟨p1, p2, p3, p4⟩
  · exact h2
  · rcases h2 with rfl | ⟨q1, q2, q3, q4⟩
    · exact .inr ⟨p1, p2, p3, p4⟩
    · refine .inr ⟨q1, q2, ?_, q4.trans p4⟩
      rw [p1] at q3
      simp only [if_true] at q3
      omega
theorem und_ch {a b c : P1} (h1 : undP a b) (h2 : undP a c) : undP b c ∨ undP c b := by
  rcases id h1 with rfl | ⟨p1, p2, p3, p4⟩
  · exact .inl h2
  · rcases h2 with rfl | ⟨q1, q2, q3, q4⟩
    · exact .inr h1
    · by_cases h : c.2.length ≤ b.2.length
      · exact .inl (.inr ⟨q1, q2, by rw [p1]; simp only [if_true]; omega, List.suffix_of_suffix_length_le q4 p4 h⟩)
      · exact .inr (.inr ⟨p1, p2, by rw [q1]; simp only [if_true]; omega, List.suffix_of_suffix_length_le p4 q4 (by omega)⟩)
theorem mkT_size (d : Bool) (l : List Nat) (h : l ≠ []) : (mkT d l).length = 2 * l.length - 1 + (if d then 1 else 0) := by
  show ((if d then [46] else []) ++ l.intersperse 46).toArray.size = _
  rw [List.size_toArray, List.length_append, intersperse_len]
  cases d <;> simp <;> omega
theorem und_lt {a b : P1} (ha : a.2 ≠ []) (hb : b.2 ≠ []) (h : undP a b) (hn : ¬ undP b a) : (tx b).length < (tx a).length := by
  show (mkT _ _).length < (mkT _ _).length
  rw [mkT_size _ _ ha, mkT_size _ _ hb]
  have h1 := List.length_pos_iff.mpr ha
  have h2 := List.length_pos_iff.mpr hb
  rcases h with rfl | ⟨p1, p2, p3, p4⟩
  · exact absurd (.inl rfl) hn
  · rw [p1]
    obtain ⟨d1, l1⟩ := a
    obtain ⟨d2, l2⟩ := b
    simp only at *
    subst p1
    cases d1 with
    | false => simp at p3 ⊢; omega
    | true =>
      simp at p3 ⊢
      by_cases e : l2.length = l1.length
      · exact absurd (.inl (by rw [p4.eq_of_length e])) hn
      · omega
theorem und_anti {a b : P1} (ha : a.2 ≠ []) (hb : b.2 ≠ []) (h1 : undP a b) (h2 : undP b a) : a = b := by
  rcases h1 with rfl | ⟨p1, p2, p3, p4⟩
  · rfl
  · rcases h2 with rfl | ⟨q1, q2, q3, q4⟩
    · rfl
    · have e := p4.eq_of_length (Nat.le_antisymm p4.length_le q4.length_le)
      exact Prod.ext (q1.trans p1.symm) e.symm
theorem lw_size (a : P1) : (tx (lw a)).length = (tx a).length ∨ a.2 = [] := by
  by_cases h : a.2 = []
  · exact .inr h
  · left
    show (mkT _ _).length = (mkT _ _).length
    rw [mkT_size _ _ h, mkT_size _ _ (by simpa using h)]
    simp
def TxS (k : Str) : Prop := ∃ a : P1, TxOk a.1 a.2 ∧ k = tx a
open Classical in
noncomputable def pk (k : Str) : P1 := if h : TxS k then h.choose else (false, [])
theorem pk_spec {k : Str} (h : TxS k) : TxOk (pk k).1 (pk k).2 ∧ k = tx (pk k) := by
  unfold pk
  rw [dif_pos h]
  exact h.choose_spec
noncomputable def Uo (k j : Str) : Bool := underP (lw (pk k)) (lw (pk j))
theorem lw_ne {k : Str} (h : TxS k) : (lw (pk k)).2 ≠ [] := by
  have := (pk_spec h).1.ne
  simpa [lw] using this
theorem lw_len {k : Str} (h : TxS k) : (tx (lw (pk k))).length = k.length := by
  rcases lw_size (pk k) with q | q
  · rw [q, ← (pk_spec h).2]
  · exact absurd q (pk_spec h).1.ne
theorem ordU {K : List Str} (hn : K.Nodup) (h : ∀ k ∈ K, TxS k) : OrdU K Uo := by
  refine ⟨hn, fun a _ b _ c _ h1 h2 => ?_, fun a _ b _ c _ h1 h2 => ?_, fun a ha b hb h1 h2 => ?_⟩
  · exact (und_iff _ _).mpr (und_tr ((und_iff _ _).mp h1) ((und_iff _ _).mp h2))
  · exact (und_ch ((und_iff _ _).mp h1) ((und_iff _ _).mp h2)).imp (und_iff _ _).mpr (und_iff _ _).mpr
  · have := und_lt (lw_ne (h a ha)) (lw_ne (h b hb)) ((und_iff _ _).mp h1) (fun q => by rw [(show Uo b a = true from (und_iff _ _).mpr q)] at h2; cases h2)
    rw [lw_len (h a ha), lw_len (h b hb)] at this
    exact this
theorem low_pk {k : Str} (h : TxS k) : Txt.lower k = tx (lw (pk k)) := by
  conv => lhs; rw [(pk_spec h).2]
  exact lower_mkT (pk_spec h).1
theorem labs_inj {d1 d2 : Bool} {l1 l2 : List Nat} (h1 : l1 ≠ []) (h2 : l2 ≠ []) (h : labsOf d1 l1 = labsOf d2 l2) : d1 = d2 ∧ l1 = l2 := by
  obtain ⟨c1, r1, rfl⟩ := List.exists_cons_of_ne_nil h1
  obtain ⟨c2, r2, rfl⟩ := List.exists_cons_of_ne_nil h2
  cases d1 <;> cases d2
  · exact ⟨rfl, map_sg_inj h⟩
  · exact absurd (List.cons.inj h).1 (sg_ne_empty _)
  · exact absurd (List.cons.inj h).1.symm (sg_ne_empty _)
  · exact ⟨rfl, map_sg_inj (List.cons.inj h).2⟩
theorem low_eq {k j : Str} (hk : TxS k) (hj : TxS j) : Txt.lower k = Txt.lower j ↔ (Uo k j = true ∧ Uo j k = true) := by
  constructor
  · intro h
    rw [low_pk hk, low_pk hj] at h
    have h2 : labsOf (pk k).1 ((pk k).2.map low) = labsOf (pk j).1 ((pk j).2.map low) := by
      rw [← split_mkT (pk_spec hk).1, ← split_mkT (pk_spec hj).1]
      exact congrArg (fun x => Txt.split x (Str.ofString ".")) h
    obtain ⟨e1, e2⟩ := labs_inj (lw_ne hk) (lw_ne hj) h2
    have e : lw (pk k) = lw (pk j) := Prod.ext e1 e2
    exact ⟨(und_iff _ _).mpr (.inl e), (und_iff _ _).mpr (.inl e.symm)⟩
  · rintro ⟨h1, h2⟩
    have e := und_anti (lw_ne hk) (lw_ne hj) ((und_iff _ _).mp h1) ((und_iff _ _).mp h2)
    rw [low_pk hk, low_pk hj, e]
theorem count_two {f : Str → Str} {K : List Str} (hn : K.Nodup) {k : Str} (hk : k ∈ K) : 1 < (K.map f).count (f k) ↔ ∃ j ∈ K, j ≠ k ∧ f j = f k := by
  obtain ⟨p, q, rfl⟩ := List.append_of_mem hk
  rw [List.map_append, List.map_cons, List.count_append, List.count_cons_self]
  have hne : ∀ j, j ∈ p ∨ j ∈ q → j ≠ k := by
    rw [List.nodup_append] at hn
    rintro j (h | h) rfl
    · exact hn.2.2 j h j (by simp) rfl
    · exact (List.nodup_cons.mp hn.2.1).1 h
  have c0 : ∀ l : List Str, 0 < (l.map f).count (f k) ↔ ∃ j ∈ l, f j = f k := by
    intro l
    rw [List.count_pos_iff, List.mem_map]
  constructor
  · intro h
    have : 0 < (p.map f).count (f k) ∨ 0 < (q.map f).count (f k) := by omega
    rcases this with h | h
    · obtain ⟨j, h1, h2⟩ := (c0 p).mp h
      exact ⟨j, by simp [h1], hne j (.inl h1), h2⟩
    · obtain ⟨j, h1, h2⟩ := (c0 q).mp h
      exact ⟨j, by simp [h1], hne j (.inr h1), h2⟩
  · rintro ⟨j, h1, h2, h3⟩
    have : j ∈ p ∨ j ∈ q := by
      rcases List.mem_append.mp h1 with h | h
      · exact .inl h
      · rcases List.mem_cons.mp h with h | h
        · exact absurd h h2
        · exact .inr h
    rcases this with h | h
    · have := (c0 p).mpr ⟨j, h, h3⟩; omega
    · have := (c0 q).mpr ⟨j, h, h3⟩; omega
theorem dbl_count {K : List Str} (hn : K.Nodup) (h : ∀ k ∈ K, TxS k) {k : Str} (hk : k ∈ K) : decide (1 < (K.map Txt.lower).count (Txt.lower k)) = dblB K Uo k := by
  have h2 : (1 < (K.map Txt.lower).count (Txt.lower k)) ↔ dblB K Uo k = true := by
    rw [count_two hn hk, dbl_iff]
    constructor
    · rintro ⟨j, h1, h2, h3⟩
      have := (low_eq (h j h1) (h k hk)).mp h3
      exact ⟨j, h1, h2, this.2, this.1⟩
    · rintro ⟨j, h1, h2, h3, h4⟩
      exact ⟨j, h1, h2, (low_eq (h j h1) (h k hk)).mpr ⟨h4, h3⟩⟩
  cases q : dblB K Uo k with
  | true => exact decide_eq_true (h2.mpr q)
  | false => exact decide_eq_false fun e => by rw [h2.mp e] at q; cases q
end
section
theorem lt_anti : ∀ a b : List Nat, Spec.ltCps a b = false → Spec.ltCps b a = false → a = b
  | [], [], _, _ => rfl
  | [], _ :: _, h, _ => by simp [Spec.ltCps] at h
  | _ :: _, [], _, h => by simp [Spec.ltCps] at h
  | a :: r, b :: t, h1, h2 => by
    simp only [Spec.ltCps, Bool.or_eq_false_iff, decide_eq_false_iff_not, Bool.and_eq_false_iff, beq_eq_false_iff_ne] at h1 h2
    have e : a = b := by omega
    subst e
    rw [lt_anti r t (h1.2.resolve_left (by simp)) (h2.2.resolve_left (by simp))]
theorem le_trans3 : ∀ a b c : List Nat, Spec.ltCps b a = false → Spec.ltCps c b = false → Spec.ltCps c a = false
  | [], b, c, _, _ => by cases c <;> rfl
  | a :: r, [], c, h1, _ => by simp [Spec.ltCps] at h1
  | a :: r, b :: t, [], _, h2 => by simp [Spec.ltCps] at h2
  | a :: r, b :: t, c :: u, h1, h2 => by
    have ih := le_trans3 r t u
    simp only [Spec.ltCps, Bool.or_eq_false_iff, decide_eq_false_iff_not, Bool.and_eq_false_iff, beq_eq_false_iff_ne] at h1 h2 ⊢
    refine ⟨by omega, ?_⟩
    by_cases e : c = a
    · have e1 : b = a := by omega
      subst e1; subst e
      exact .inr (ih (h1.2.resolve_left (by simp)) (h2.2.resolve_left (by simp)))
    · exact .inl e
theorem rising_pw : ∀ (p : Str) (l : List Str), risingS p l = true → (p :: l).Pairwise fun a b => Spec.ltCps b.cps.toList a.cps.toList = false
  | p, [], _ => by simp
  | p, x :: r, h => by
    have h' : (!Spec.ltCps x.cps.toList p.cps.toList) = true ∧ risingS x r = true := by
      rw [← Bool.and_eq_true]; exact h
    have h1 : Spec.ltCps x.cps.toList p.cps.toList = false := by simpa using h'.1
    have ih := rising_pw x r h'.2
    refine List.pairwise_cons.mpr ⟨fun y hy => ?_, ih⟩
    rcases List.mem_cons.mp hy with rfl | hy
    · exact h1
    · exact le_trans3 _ _ _ h1 (List.rel_of_pairwise_cons ih hy)
theorem sorted_pw : ∀ {l : List Str}, sortedS l = true → l.Pairwise fun a b => Spec.ltCps b.cps.toList a.cps.toList = false
  | [], _ => .nil
  | p :: l, h => rising_pw p l h
theorem sorted_uniq {a b : List Str} (ha : sortedS a = true) (hb : sortedS b = true) (hp : a.Perm b) : a = b := by
  refine List.Perm.eq_of_pairwise (fun x y _ _ h1 h2 => ?_) (sorted_pw ha) (sorted_pw hb) hp
  have := lt_anti _ _ h2 h1
  obtain ⟨⟨x⟩⟩ := x; obtain ⟨⟨y⟩⟩ := y
  simp only at this
  rw [this]
theorem nR_max {K : List Str} {U : Str → Str → Bool} {M : Int} (h1 : M ∈ (-1 : Int) :: (K.filter (freeB K U)).map fun k => ((Mf K U k).length : Int)) (h2 : ∀ a ∈ (-1 : Int) :: (K.filter (freeB K U)).map fun k => ((Mf K U k).length : Int), a ≤ M) : 1 + M = (nR K U : Int) := by
  have g1 : -1 ≤ M := h2 _ (by simp)
  rcases List.mem_cons.mp h1 with rfl | h1
  · by_cases e : nR K U = 0
    · rw [e]; rfl
    · obtain ⟨y, hy, hf, hl⟩ := nR_ex e
      have := h2 ((Mf K U y).length : Int) (List.mem_cons_of_mem _ (List.mem_map.mpr ⟨y, List.mem_filter.mpr ⟨hy, hf⟩, rfl⟩))
      omega
  · obtain ⟨k, hk, rfl⟩ := List.mem_map.mp h1
    obtain ⟨k1, k2⟩ := List.mem_filter.mp hk
    have l1 := nR_lt k1 k2
    obtain ⟨y, hy, hf, hl⟩ := nR_ex (K := K) (U := U) (by omega)
    have := h2 ((Mf K U y).length : Int) (List.mem_cons_of_mem _ (List.mem_map.mpr ⟨y, List.mem_filter.mpr ⟨hy, hf⟩, rfl⟩))
    omega
abbrev lstsD (zs : List (List Str)) : List PyData := zs.map fun ss => .list (ss.map .str)
theorem eqvAll_lsts : ∀ zs : List (List Str), PyData.eqvAll (lstsD zs) (lstsD zs) = true
  | [] => rfl
  | z :: zs => by
    have := eqvAll_lsts zs
    simp only [lstsD, List.map_cons, PyData.eqvAll] at this ⊢
    rw [this, eqv_strs]; simp
theorem eqv_lsts (zs : List (List Str)) : PyData.eqv (.list (lstsD zs)) (.list (lstsD zs)) = true := by rw [PyData.eqv]; exact eqvAll_lsts zs
theorem canLay_lsts : ∀ {zs : List (List Str)}, (∀ ss ∈ zs, ∀ y ∈ ss, PyData.strOk y = true) → PyData.canLayAll0 (lstsD zs) = true
  | [], _ => rfl
  | z :: zs, h => by
    have := canLay_lsts (zs := zs) fun ss hs => h ss (by simp [hs])
    simp only [lstsD, List.map_cons, PyData.canLayAll0, PyData.canLay0] at this ⊢
    rw [this, canLay_strs (h z (by simp))]; rfl
theorem depth_lsts : ∀ zs : List (List Str), PyData.depthAll (lstsD zs) ≤ 1
  | [] => by simp [PyData.depthAll]
  | z :: zs => by
    have := depth_lsts zs
    simp only [lstsD, List.map_cons, PyData.depthAll, PyData.depth] at this ⊢
    rw [depthAll_strs]
    omega
theorem shaped_lsts {zs : List (List Str)} (h : ∀ ss ∈ zs, ∀ y ∈ ss, PyData.strOk y = true) : SeqAt.shaped (.list (lstsD zs)) = true := by
  unfold SeqAt.shaped
  have := depth_lsts zs
  rw [PyData.canLay0, canLay_lsts h, PyData.depth, Bool.true_and, decide_eq_true_eq]
  omega
section
variable {C : Cx} {led : Led}
theorem rds_lsts : ∀ {ls qs : List (Addr × List Value × Nat)} {P : Nat → List Str → Prop} (i : Nat), ls.length = qs.length →
    (∀ j a b, P j a → P j b → a = b) → (∀ (j : Nat) p, ls[j]? = some p → ∃ ss, StrsAre p.2.1 ss ∧ P (i + j) ss) → (∀ (j : Nat) p, qs[j]? = some p → ∃ ss, StrsAre p.2.1 ss ∧ P (i + j) ss) →
    (∀ p ∈ ls, Has C led p.1 (listO p.2.1 p.2.2)) → (∀ p ∈ qs, Has C led p.1 (listO p.2.1 p.2.2)) →
    ∃ zs, RDs C led (ls.map fun p => .ref p.1) (lstsD zs) ∧ RDs C led (qs.map fun p => .ref p.1) (lstsD zs) ∧ ∀ ss ∈ zs, ∃ j, P j ss
  | [], [], P, i, _, _, _, _, _, _ => ⟨[], RDs.nil, RDs.nil, by simp⟩
  | p :: ls, q :: qs, P, i, hl, hP, h1, h2, g1, g2 => by
    obtain ⟨zs, r1, r2, r3⟩ := rds_lsts (ls := ls) (qs := qs) (P := P) (i + 1) (by simpa using hl) hP (fun j p hp => by rw [Nat.add_assoc, Nat.add_comm 1]; exact h1 (j + 1) p hp) (fun j p hp => by rw [Nat.add_assoc, Nat.add_comm 1]; exact h2 (j + 1) p hp)
      (fun p hp => g1 p (by simp [hp])) (fun p hp => g2 p (by simp [hp]))
    obtain ⟨s1, a1, b1⟩ := h1 0 p rfl
    obtain ⟨s2, a2, b2⟩ := h2 0 q rfl
    obtain rfl := hP _ _ _ b1 b2
    refine ⟨s1 :: zs, RDs.cons (RD.list (g1 p (by simp)) (RDs.strs a1)) r1, RDs.cons (RD.list (g2 q (by simp)) (RDs.strs a2)) r2, fun ss hs => ?_⟩
    rcases List.mem_cons.mp hs with rfl | hs
    · exact ⟨_, b1⟩
    · exact r3 ss hs
end
end
namespace NB
open F1 F2 F3 F4 F5 F6
noncomputable def lawF (p : Params) : FuncData := match (hd.heap_1 p).lookup 332 with
  | some ⟨_, _, .func fd, _⟩ => fd
  | _ => default
noncomputable def lawB (p : Params) (k : Nat) : List Stmt := match (lawF p).body with
  | .stmts b => b.drop k
  | _ => []
noncomputable def lawE (p : Params) (L : Addr) : Env := envOfC (lawF p).qualname (lawF p).scope L 332 (lawF p).code
section
variable {C : Cx} {m : Loc} {led : Led}
theorem r_law {k j : Nat} {name qual : Str} {params : Arguments} {body : List Stmt} {scope : Scope} {dV kV doc pm cdv ct oc : Value} {an od : Option Addr} {osl : Array (Option Value)} {Q : Flow → Loc → Led → Prop}
    (ho : (hd.heap_1 C.W.w.params).lookup 332 = some ⟨oc, od, .func (fnOf name qual params body scope dV kV doc pm an cdv ct), osl⟩)
    (h : lawB C.W.w.params j = body.drop j → lawE C.W.w.params C.L = envOfC qual scope C.L 332 cdv → T C m led (execs (body.drop k) (envOfC qual scope C.L 332 cdv)) Q) : T C m led (execs (lawB C.W.w.params k) (lawE C.W.w.params C.L)) Q := by
  have hF : lawF C.W.w.params = fnOf name qual params body scope dV kV doc pm an cdv ct := by unfold lawF; rw [ho]
  have hB : ∀ k, lawB C.W.w.params k = body.drop k := fun k => by unfold lawB; rw [hF]
  have hE : lawE C.W.w.params C.L = envOfC qual scope C.L 332 cdv := by unfold lawE; rw [hF]
  rw [hB, hE]
  exact h (hB j) hE
theorem r_lawOut {j : Nat} {p : Params} {L : Addr} {rest : List Stmt} {env : Env} {Q : Flow → Loc → Led → Prop} (e : lawB p j = rest) (eE : lawE p L = env) (h : T C m led (execs (lawB p j) (lawE p L)) Q) : T C m led (execs rest env) Q := e ▸ eE ▸ h
end
abbrev celL (L : Addr) (fre dbl sml mat txs mds : Option Value) (led : Led) : Led :=
  (L + 1 + 1 + 1 + 1 + 1 + 1, cellO fre) :: (L + 1 + 1 + 1 + 1 + 1, cellO dbl) :: (L + 1 + 1 + 1 + 1, cellO sml) :: (L + 1 + 1 + 1, cellO mat) :: (L + 1 + 1, cellO txs) :: (L + 1, cellO mds) :: led
theorem keys_strs {w : World} : ∀ {vs : List Value} {kvs : List (Str × Value)}, vs.length = kvs.length → (∀ (i : Nat) v, vs[i]? = some v → ∃ k x, kvs[i]? = some (k, x) ∧ (strKind PG w).is k v = true) → StrsAre vs (kvs.map (·.1))
  | [], [], _, _ => .nil
  | v :: vs, p :: kvs, hl, h => by
    obtain ⟨k, x, hk, hv⟩ := h 0 v rfl
    simp only [List.getElem?_cons_zero, Option.some.injEq] at hk
    subst hk
    obtain ⟨u, rfl⟩ := Value.isStrOf_shape hv
    exact .cons _ _ (keys_strs (by simpa using hl) fun i v hi => h (i + 1) v hi)
def mdOf (kvs : List (Str × Value)) (k : Str) : Int := match valueAt kvs k with
  | some (.int n _) => n
  | _ => 0
theorem mdOf_spec {kvs : List (Str × Value)} (h : ModesOk 10 kvs) {k : Str} (hk : k ∈ kvs.map (·.1)) : ∃ t, valueAt kvs k = some (.int (mdOf kvs k) t) := by
  obtain ⟨p, hp, rfl⟩ := List.mem_map.mp hk
  cases q : kvs.find? fun kv => decide (kv.1 = p.1) with
  | none => exact absurd (List.find?_eq_none.mp q p hp) (by simp)
  | some r =>
    obtain ⟨_, n, t, hr⟩ := h.2 r (List.mem_of_find?_eq_some q)
    have e : valueAt kvs p.1 = some (.int n t) := by unfold valueAt; rw [q, ← hr]; rfl
    refine ⟨t, ?_⟩
    unfold mdOf
    rw [e]
theorem modes_txs {kvs : List (Str × Value)} (h : ModesOk 10 kvs) : ∀ k ∈ kvs.map (·.1), TxS k := fun k hk => by
  obtain ⟨p, hp, rfl⟩ := List.mem_map.mp hk
  obtain ⟨⟨a, ha, e⟩, _⟩ := h.2 p hp
  exact ⟨a, ha, e⟩
section
variable {C : Cx} {m : Loc} {led : Led}
theorem udm_tx {k j : Str} {t u : Tok} {Q : Value → Loc → Led → Prop} (R : Room C 3) (hk : TxS k) (hj : TxS j) (h : Q (.bool (Uo k j)) m led) : T C m led (call (.ref 57) [.str k t, .str j u]) Q := by
  have hk' := pk_spec hk
  have hj' := pk_spec hj
  rw [hk'.2, hj'.2]
  exact udm_spec R hk'.1 hj'.1 h
theorem under_tx {k j : Str} {t u : Tok} {Q : Value → Loc → Led → Prop} (R : Room C 3) (hk : TxS k) (hj : TxS j) (h : Q (.bool (Uo k j)) m led) : T C m led (call (.ref 292) [.str k t, .str j u]) Q := by
  have hk' := pk_spec hk
  have hj' := pk_spec hj
  rw [hk'.2, hj'.2]
  exact under_spec2 R hk'.1 hj'.1 h
theorem lawA {sl : Addr} {vs : List Value} {ns : List Int} {k : Nat} {Q : Flow → Loc → Led → Prop} (R : Room C 6) (hl : Has C led sl (listO vs k)) (hi : IntsAre vs ns) (h63 : vs.length ≤ 63) (hs : m "script" = some (.ref sl))
    (h : ∀ m' ta tv tn md omd kvs, (md == sysModules) = false → omd.IsDictOf (strKind PG C.W.w) kvs → ModesOk 10 kvs → StrsAre tv (kvs.map (·.1)) →
      T C m' ((ta, listO tv tn) :: (md, omd) :: celL C.L none none none none (some (.ref ta)) (some (.ref md)) led) (execs (lawB C.W.w.params 3) (lawE C.W.w.params C.L)) Q) :
    T C m (celL C.L none none none none none none led) (execs (lawB C.W.w.params 0) (lawE C.W.w.params C.L)) Q := by
  refine' r_law (j := 3) ?ho fun e3 eE => ?_
  (case ho => k_is)
  simp only [List.drop_succ_cons, List.drop_zero] at e3 ⊢
  with_reducible refine r_consQ fun QQ hQQ => ?_
  refine r_Assign ?_
  refine r_Call ?_
  (refine' r_global rfl rfl rfl ?e ?_; (case e => k_is))
  refine' r_cwK ?hf ?_; (case hf => k_is)
  refine r_argCons ?_
  (refine' r_local rfl rfl rfl ?hv ?_; (case hv => walk_at "look"))
  with_reducible refine r_argNil ?_
  refine modes_spec (by walk_at "room") (by walk_at "has") hi h63 fun md omd kvs hsys hD hM => ?_
  have hkl := hM.1
  refine r_storeCell (pre := [_, _, _, _, _, _]) rfl rfl rfl rfl ?_
  with_reducible refine leafN (by assumption) ?_
  with_reducible refine r_consQ fun QQ hQQ => ?_
  refine r_Assign ?_
  refine r_Call ?_
  (refine' r_builtin rfl rfl rfl rfl ?e ?hv ?hn ?_; (case e => k_is); (case hv => boot_by_name); (case hn => decide))
  refine r_cwT ?_
  refine r_argCons ?_
  (refine' r_cell rfl ?hl ?hc ?hv ?_; (case hl => first | exact Or.inl rfl | exact Or.inr rfl); (case hc => exact rfl); (case hv => walk_at "has"))
  with_reducible refine r_argNil ?_
  refine r_listDict R.h Has.head hD hsys (by omega) fun ta tv tn htl htg => ?_
  have hT := keys_strs htl htg
  refine r_storeCell (pre := [_, _, _, _, _, _]) rfl rfl rfl rfl ?_
  with_reducible refine leafN (by assumption) ?_
  with_reducible refine r_consQ fun QQ hQQ => ?_
  refine r_ForList R.h ?_
  (refine' r_cell rfl ?hl ?hc ?hv ?_; (case hl => first | exact Or.inl rfl | exact Or.inr rfl); (case hc => exact rfl); (case hv => walk_at "has"))
  refine ⟨ta, tv, tn, fun i m' l' => l' = (ta, listO tv tn) :: (md, omd) :: celL C.L none none none none (some (.ref ta)) (some (.ref md)) led, rfl, Has.head, ?_, rfl, ?_, ?_⟩
  · rintro i m' l' rfl; exact Has.head
  · rintro E3 I o3 i v m3 l3 hvi rfl
    obtain ⟨y, ty, hy, rfl⟩ := strsAre_get' hT hvi
    have hyK : y ∈ kvs.map (·.1) := List.mem_of_getElem? hy
    obtain ⟨tm, hvm⟩ := mdOf_spec hM hyK
    have hyT := modes_txs hM y hyK
    refine r_store rfl rfl rfl ?_
    with_reducible refine r_consQ fun QQ hQQ => ?_
    refine r_If ?_
    with_reducible refine r_isCmp ?_
    refine r_Call ?_
    (refine' r_global rfl rfl rfl ?e ?_; (case e => k_is))
    refine' r_cwK ?hf ?_; (case hf => k_is)
    refine r_argCons ?_
    with_reducible refine r_Sub ?_
    (refine' r_cell rfl ?hl ?hc ?hv ?_; (case hl => first | exact Or.inl rfl | exact Or.inr rfl); (case hc => exact rfl); (case hv => walk_at "has"))
    refine r_local rfl rfl rfl rfl ?_
    refine r_dItem (Has.tail (Has.tail Has.head)) hD (strKind_is _ _ _ _) hvm ?_
    with_reducible refine r_argNil ?_
    refine ifmt_spec (by walk_at "room") fun t1 => ?_
    with_reducible refine r_BinOp ?_
    with_reducible refine r_BinOp ?_
    with_reducible refine r_BinOp ?_
    with_reducible refine r_Sub ?_
    (refine' r_cell rfl ?hl ?hc ?hv ?_; (case hl => first | exact Or.inl rfl | exact Or.inr rfl); (case hc => exact rfl); (case hv => walk_at "has"))
    refine r_local rfl rfl rfl rfl ?_
    refine r_dItem (Has.tail (Has.tail Has.head)) hD (strKind_is _ _ _ _) hvm ?_
    with_reducible refine r_int fun zt => ?_
    refine r_fdiv (by decide) (pyl_4096 _) fun t2 => ?_
    with_reducible refine r_int fun zt => ?_
    refine r_mod (by decide) fun t3 => ?_
    with_reducible refine r_int fun zt => ?_
    refine r_mul (.of_right (by decide)) fun t4 => ?_
    with_reducible refine r_neI ?_
    with_reducible refine r_tBool ?_
    refine iteB (fun hb => absurd hb ?_) (fun hb => ?_)
    · rw [kind_eq, Int.fdiv_eq_ediv_of_nonneg _ (by decide), Int.fmod_eq_emod_of_nonneg _ (by decide)]; simp
    with_reducible refine r_nil ?_
    with_reducible refine leafN (by assumption) ?_
    with_reducible refine r_consQ fun QQ hQQ => ?_
    refine r_ForList R.h ?_
    (refine' r_cell rfl ?hl ?hc ?hv ?_; (case hl => first | exact Or.inl rfl | exact Or.inr rfl); (case hc => exact rfl); (case hv => walk_at "has"))
    refine ⟨ta, tv, tn, fun i m' l' => l' = (I, o3) :: (ta, listO tv tn) :: (md, omd) :: celL C.L none none none none (some (.ref ta)) (some (.ref md)) led ∧ m' "one" = some (.str y ty), rfl, Has.tail Has.head, ?_, ⟨rfl, by walk_at "look"⟩, ?_, ?_⟩
    · rintro i m' l' ⟨rfl, _⟩; exact Has.tail Has.head
    · rintro E4 I4 o4 j v m4 l4 hvj ⟨rfl, e1⟩
      obtain ⟨z, tz, hz, rfl⟩ := strsAre_get' hT hvj
      have hzT := modes_txs hM z (List.mem_of_getElem? hz)
      refine r_store rfl rfl rfl ?_
      with_reducible refine r_consQ fun QQ hQQ => ?_
      refine r_If ?_
      with_reducible refine r_isCmp ?_
      refine r_Call ?_
      (refine' r_global rfl rfl rfl ?e ?_; (case e => k_is))
      refine' r_cwK ?hf ?_; (case hf => k_is)
      refine r_argCons ?_
      (refine' r_local rfl rfl rfl ?hv ?_; (case hv => walk_at "look"))
      refine r_argCons ?_
      refine r_local rfl rfl rfl rfl ?_
      with_reducible refine r_argNil ?_
      refine udm_tx (by walk_at "room") hyT hzT ?_
      refine r_Call ?_
      (refine' r_global rfl rfl rfl ?e ?_; (case e => k_is))
      refine' r_cwK ?hf ?_; (case hf => k_is)
      refine r_argCons ?_
      (refine' r_local rfl rfl rfl ?hv ?_; (case hv => walk_at "look"))
      refine r_argCons ?_
      refine r_local rfl rfl rfl rfl ?_
      with_reducible refine r_argNil ?_
      refine under_tx (by walk_at "room") hyT hzT ?_
      refine r_isnt rfl ?_
      with_reducible refine r_tBool ?_
      refine iteB (fun hb => absurd hb (by simp)) (fun hb => ?_)
      with_reducible refine r_nil ?_
      with_reducible refine leafN (by assumption) ?_
      with_reducible refine r_nil ?_
      exact TurnF.next _ (.refl _) ⟨rfl, by walk_at "look"⟩
    · rintro E4 m4 l4 ⟨rfl, e1⟩
      with_reducible refine r_nil ?_
      with_reducible refine leafN (by assumption) ?_
      with_reducible refine r_nil ?_
      exact TurnF.next _ (.refl _) rfl
  · rintro E3 m3 l3 rfl
    with_reducible refine r_nil ?_
    with_reducible refine leafN (by assumption) ?_
    refine r_lawOut e3 eE ?_
    exact h m3 ta tv tn md omd kvs hsys hD hM hT
end
end NB
namespace NC
open F1 F2 F3 F4 F5 F6 NB
abbrev ML := List (Str × Addr × List Value × Nat)
abbrev mlL (ms : ML) : Led := ms.map fun p => (p.2.1, listO p.2.2.1 p.2.2.2)
abbrev mlK (ms : ML) : List (Str × Value) := ms.map fun p => (p.1, .ref p.2.1)
structure MlOk (K : List Str) (ms : ML) (ks : List Str) : Prop where
  ks : ms.map (·.1) = ks
  all : ∀ p ∈ ms, StrsAre p.2.2.1 (Mf K Uo p.1)
theorem MlOk.len {K ks : List Str} {ms : ML} (h : MlOk K ms ks) : ms.length = ks.length := by rw [← h.ks, List.length_map]
theorem MlOk.snoc {K ks : List Str} {ms : ML} {y : Str} {a : Addr} {vs : List Value} {n : Nat} (h : MlOk K ms ks) (hv : StrsAre vs (Mf K Uo y)) : MlOk K (ms ++ [(y, a, vs, n)]) (ks ++ [y]) := by
  refine ⟨by simp [h.ks], fun p hp => ?_⟩
  rcases List.mem_append.mp hp with hp | hp
  · exact h.all p hp
  · simp only [List.mem_singleton] at hp
    subst hp; exact hv
theorem mlK_fst (ms : ML) : (mlK ms).map (·.1) = ms.map (·.1) := by simp [List.map_map, Function.comp_def]
theorem stored_end {kvs : List (Str × Value)} {k : Str} {v : Value} (h : k ∉ kvs.map (·.1)) : stored kvs k v = kvs ++ [(k, v)] := by
  unfold stored
  rw [if_neg]
  intro q
  obtain ⟨p, hp, e⟩ := List.any_eq_true.mp q
  exact h (List.mem_map.mpr ⟨p, hp, by simpa using e⟩)
theorem ifF {X Y : Prop} (h : Y) : if false = true then X else Y := by simpa using h
theorem take_fresh {ks : List Str} (hn : ks.Nodup) {i : Nat} {y : Str} (h : ks[i]? = some y) : y ∉ ks.take i := fun q => by
  have h2 : (ks.take (i + 1)).Nodup := (List.take_sublist _ _).nodup hn
  rw [List.take_add_one, h, List.nodup_append] at h2
  exact h2.2.2 y q y (by simp) rfl
abbrev baseL (L : Addr) (fre dbl sml mat : Option Value) (ms : ML) (ta : Addr) (tv : List Value) (tn : Nat) (md : Addr) (omd : Obj) (led : Led) : Led :=
  mlL ms ++ (ta, listO tv tn) :: (md, omd) :: celL L fre dbl sml mat (some (.ref ta)) (some (.ref md)) led
theorem Has.apR {C : Cx} {l0 l : Led} {a : Addr} {o : Obj} (h : Has C l a o) : Has C (l0 ++ l) a o := h.imp (List.mem_append_right _) id
section
variable {C : Cx} {m : Loc} {led X : Led} {L ta md : Addr} {fre dbl sml mat : Option Value} {ms : ML} {tv : List Value} {tn : Nat} {omd : Obj} {env : Env} {x : Str} {v : Value} {Q : Unit → Loc → Led → Prop}
theorem hB_ta : Has C (baseL L fre dbl sml mat ms ta tv tn md omd led) ta (listO tv tn) := Has.apR Has.head
theorem hB_md : Has C (baseL L fre dbl sml mat ms ta tv tn md omd led) md omd := Has.apR (Has.tail Has.head)
theorem hB_fre : Has C (baseL L fre dbl sml mat ms ta tv tn md omd led) (L + 1 + 1 + 1 + 1 + 1 + 1) (cellO fre) := Has.apR (Has.tail (Has.tail Has.head))
theorem hB_dbl : Has C (baseL L fre dbl sml mat ms ta tv tn md omd led) (L + 1 + 1 + 1 + 1 + 1) (cellO dbl) := Has.apR (Has.tail (Has.tail (Has.tail Has.head)))
theorem hB_sml : Has C (baseL L fre dbl sml mat ms ta tv tn md omd led) (L + 1 + 1 + 1 + 1) (cellO sml) := Has.apR (Has.tail (Has.tail (Has.tail (Has.tail Has.head))))
theorem hB_mat : Has C (baseL L fre dbl sml mat ms ta tv tn md omd led) (L + 1 + 1 + 1) (cellO mat) := Has.apR (Has.tail (Has.tail (Has.tail (Has.tail (Has.tail Has.head)))))
theorem hB_txs : Has C (baseL L fre dbl sml mat ms ta tv tn md omd led) (L + 1 + 1) (cellO (some (.ref ta))) := Has.apR (Has.tail (Has.tail (Has.tail (Has.tail (Has.tail (Has.tail Has.head))))))
theorem hB_mds : Has C (baseL L fre dbl sml mat ms ta tv tn md omd led) (L + 1) (cellO (some (.ref md))) := Has.apR (Has.tail (Has.tail (Has.tail (Has.tail (Has.tail (Has.tail (Has.tail Has.head)))))))
theorem r_stMat (hk : env.scope.kind = .function) (hl : env.kindOf x = some .cell) (hc : env.cells.lookup x = some (L + 1 + 1 + 1)) (h : Q () m (X ++ baseL L fre dbl sml (some v) ms ta tv tn md omd led)) : T C m (X ++ baseL L fre dbl sml mat ms ta tv tn md omd led) (storeName env x v) Q :=
  r_storeCell (v0 := mat) (pre := X ++ (mlL ms ++ [(ta, listO tv tn), (md, omd), (L + 1 + 1 + 1 + 1 + 1 + 1, cellO fre), (L + 1 + 1 + 1 + 1 + 1, cellO dbl), (L + 1 + 1 + 1 + 1, cellO sml)])) (post := (L + 1 + 1, cellO (some (.ref ta))) :: (L + 1, cellO (some (.ref md))) :: led) hk hl hc (by simp) (by simpa using h)
theorem r_stSml (hk : env.scope.kind = .function) (hl : env.kindOf x = some .cell) (hc : env.cells.lookup x = some (L + 1 + 1 + 1 + 1)) (h : Q () m (X ++ baseL L fre dbl (some v) mat ms ta tv tn md omd led)) : T C m (X ++ baseL L fre dbl sml mat ms ta tv tn md omd led) (storeName env x v) Q :=
  r_storeCell (v0 := sml) (pre := X ++ (mlL ms ++ [(ta, listO tv tn), (md, omd), (L + 1 + 1 + 1 + 1 + 1 + 1, cellO fre), (L + 1 + 1 + 1 + 1 + 1, cellO dbl)])) (post := (L + 1 + 1 + 1, cellO mat) :: (L + 1 + 1, cellO (some (.ref ta))) :: (L + 1, cellO (some (.ref md))) :: led) hk hl hc (by simp) (by simpa using h)
theorem r_stDbl (hk : env.scope.kind = .function) (hl : env.kindOf x = some .cell) (hc : env.cells.lookup x = some (L + 1 + 1 + 1 + 1 + 1)) (h : Q () m (X ++ baseL L fre (some v) sml mat ms ta tv tn md omd led)) : T C m (X ++ baseL L fre dbl sml mat ms ta tv tn md omd led) (storeName env x v) Q :=
  r_storeCell (v0 := dbl) (pre := X ++ (mlL ms ++ [(ta, listO tv tn), (md, omd), (L + 1 + 1 + 1 + 1 + 1 + 1, cellO fre)])) (post := (L + 1 + 1 + 1 + 1, cellO sml) :: (L + 1 + 1 + 1, cellO mat) :: (L + 1 + 1, cellO (some (.ref ta))) :: (L + 1, cellO (some (.ref md))) :: led) hk hl hc (by simp) (by simpa using h)
theorem r_stFre (hk : env.scope.kind = .function) (hl : env.kindOf x = some .cell) (hc : env.cells.lookup x = some (L + 1 + 1 + 1 + 1 + 1 + 1)) (h : Q () m (X ++ baseL L (some v) dbl sml mat ms ta tv tn md omd led)) : T C m (X ++ baseL L fre dbl sml mat ms ta tv tn md omd led) (storeName env x v) Q :=
  r_storeCell (v0 := fre) (pre := X ++ (mlL ms ++ [(ta, listO tv tn), (md, omd)])) (post := (L + 1 + 1 + 1 + 1 + 1, cellO dbl) :: (L + 1 + 1 + 1 + 1, cellO sml) :: (L + 1 + 1 + 1, cellO mat) :: (L + 1 + 1, cellO (some (.ref ta))) :: (L + 1, cellO (some (.ref md))) :: led) hk hl hc (by simp) (by simpa using h)
end
section
variable {C : Cx} {m : Loc} {led : Led}
theorem lawM {ta md : Addr} {tv : List Value} {tn : Nat} {omd : Obj} {ks : List Str} {Q : Flow → Loc → Led → Prop} (R : Room C 6) (hn : ks.Nodup) (hx : ∀ k ∈ ks, TxS k) (hT : StrsAre tv ks) (hz : ks.length ≤ 10)
    (h : ∀ mx omx ms, (mx == sysModules) = false → omx.IsDictOf (strKind PG C.W.w) (mlK ms) → MlOk ks ms ks →
      T C m ((mx, omx) :: (mlL ms ++ (ta, listO tv tn) :: (md, omd) :: celL C.L none none none (some (.ref mx)) (some (.ref ta)) (some (.ref md)) led)) (execs (lawB C.W.w.params 4) (lawE C.W.w.params C.L)) Q) :
    T C m ((ta, listO tv tn) :: (md, omd) :: celL C.L none none none none (some (.ref ta)) (some (.ref md)) led) (execs (lawB C.W.w.params 3) (lawE C.W.w.params C.L)) Q := by
  have htl := strsAre_len hT
  refine' r_law (j := 4) ?ho fun e3 eE => ?_
  (case ho => k_is)
  simp only [List.drop_succ_cons, List.drop_zero] at e3 ⊢
  with_reducible refine r_consQ fun QQ hQQ => ?_
  refine r_Assign ?_
  refine r_DictComp ?_
  refine' r_DC (strKind PG C.W.w) ?hcl ?hkd ?hnm ?_
  (case hcl => exact rfl)
  (case hkd => exact rfl)
  (case hnm => decide)
  (refine' r_cell rfl ?hl ?hc ?hv ?_; (case hl => first | exact Or.inl rfl | exact Or.inr rfl); (case hc => exact rfl); (case hv => walk_at "has"))
  refine r_iterList Has.head fun it hne => ?_
  refine ⟨it, tv.length, fun i v ex => tv[i]? = some v ∧ ex = [], LiO ta, liO ta 0, (ta, listO tv tn) :: (md, omd) :: celL C.L none none none none (some (.ref ta)) (some (.ref md)) led, rfl, .refl _, ⟨rfl, rfl⟩, fun D L2 β2 E2 hD up2 => ?_⟩
  refine ⟨_, fun i kvs l => ∃ ms c, kvs = mlK ms ∧ MlOk ks ms (ks.take i) ∧ l = mlL ms ++ (L2 + 1, cellO c) :: (ta, listO tv tn) :: (md, omd) :: celL C.L none none none none (some (.ref ta)) (some (.ref md)) led, it_list (n := tn) R.h hne, ?_, ?_, ?_, ?_⟩
  · rintro i kvs od l ⟨ms, c, rfl, hms, rfl⟩
    refine ⟨.inl (by simp), ?_⟩
    have h1 := hms.len
    rw [List.length_map, h1, List.length_take, sizeLine_eq]
    omega
  · exact ⟨[], none, rfl, ⟨rfl, by simp⟩, rfl⟩
  · rintro i v ex kvs m2 o2 od l hi2 ⟨hv, rfl⟩ hS hod ⟨ms, c, rfl, hms, rfl⟩
    obtain ⟨y, ty, hy, rfl⟩ := strsAre_get' hT hv
    have hyT := hx y (List.mem_of_getElem? hy)
    refine r_storeCell (pre := (it, o2) :: (D, od) :: mlL ms) rfl rfl rfl rfl ?_
    have hOne : Has C ((it, o2) :: (D, od) :: (mlL ms ++ (L2 + 1, cellO (some (.str y ty))) :: (ta, listO tv tn) :: (md, omd) :: celL C.L none none none none (some (.ref ta)) (some (.ref md)) led)) (L2 + 1) (cellO (some (.str y ty))) := Has.tail (Has.tail (Has.apR Has.head))
    have hTx : Has C ((it, o2) :: (D, od) :: (mlL ms ++ (L2 + 1, cellO (some (.str y ty))) :: (ta, listO tv tn) :: (md, omd) :: celL C.L none none none none (some (.ref ta)) (some (.ref md)) led)) (C.L + 1 + 1) (cellO (some (.ref ta))) := Has.tail (Has.tail (Has.apR (Has.tail (Has.tail (Has.tail (Has.tail (Has.tail (Has.tail (Has.tail Has.head)))))))))
    have hTa : Has C ((it, o2) :: (D, od) :: (mlL ms ++ (L2 + 1, cellO (some (.str y ty))) :: (ta, listO tv tn) :: (md, omd) :: celL C.L none none none none (some (.ref ta)) (some (.ref md)) led)) ta (listO tv tn) := Has.tail (Has.tail (Has.apR (Has.tail Has.head)))
    (refine' r_cell rfl ?hl ?hc ?hv ?_; (case hl => first | exact Or.inl rfl | exact Or.inr rfl); (case hc => exact rfl); (case hv => walk_at "has"))
    refine r_ListComp ?_
    refine' r_LCl R.h ?hcl ?hkd ?hnm ?_
    (case hcl => exact rfl)
    (case hkd => exact rfl)
    (case hnm => decide)
    (refine' r_cell rfl ?hl ?hc ?hv ?_; (case hl => first | exact Or.inl rfl | exact Or.inr rfl); (case hc => exact rfl); (case hv => walk_at "has"))
    refine ⟨ta, tv, tn, fun j ys => StrsAre ys ((ks.take j).filter fun z => z != y && Uo y z), rfl, hTa, by omega, by simpa using StrsAre.nil, fun _ _ q => strs_filt_len q, ?_, ?_⟩
    · intro L3 β3 E3 j v ys m3 a b up3 hvj hK
      obtain ⟨z, tz, hz2, rfl⟩ := strsAre_get' hT hvj
      have hzT := hx z (List.mem_of_getElem? hz2)
      refine r_store rfl rfl rfl ?_
      refine r_tests1 ?_
      with_reducible refine r_isAnd ?_
      with_reducible refine r_isCmp ?_
      refine r_local rfl rfl rfl rfl ?_
      (refine' r_cell rfl ?hl ?hc ?hv ?_; (case hl => first | exact Or.inl rfl | exact Or.inr rfl); (case hc => exact rfl); (case hv => walk_at "has"))
      with_reducible refine r_neS ?_
      with_reducible refine r_tBool ?_
      refine iteB (fun hb => ?_) (fun hb => ?_)
      · with_reducible refine r_isAnd ?_
        refine r_isPlain ?_
        refine r_Call ?_
        (refine' r_global rfl rfl rfl ?e ?_; (case e => k_is))
        refine' r_cwK ?hf ?_; (case hf => k_is)
        refine r_argCons ?_
        (refine' r_cell rfl ?hl ?hc ?hv ?_; (case hl => first | exact Or.inl rfl | exact Or.inr rfl); (case hc => exact rfl); (case hv => walk_at "has"))
        refine r_argCons ?_
        refine r_local rfl rfl rfl rfl ?_
        with_reducible refine r_argNil ?_
        refine under_tx (Room.of R (by decide) rfl) hyT hzT ?_
        with_reducible refine r_tBool ?_
        refine iteB (fun hc => ?_) (fun hc => ?_)
        · with_reducible refine r_isAndNil ?_
          refine ifT ?_
          refine r_local rfl rfl rfl rfl ?_
          exact ⟨.refl _, strs_filt hz2 hK (by simp only [hb, hc, Bool.and_self])⟩
        · refine ifF ⟨.refl _, strs_filt0 hz2 hK (by simp only [hc, Bool.and_false])⟩
      · refine ifF ⟨.refl _, strs_filt0 hz2 hK (by simp only [hb, Bool.false_and])⟩
    · intro D3 L3 ys k3 hK
      rw [htl, List.take_length] at hK
      refine CompEnd.nul ⟨y, mlL (ms ++ [(y, D3, ys, k3)]) ++ (L2 + 1, cellO (some (.str y ty))) :: (ta, listO tv tn) :: (md, omd) :: celL C.L none none none none (some (.ref ta)) (some (.ref md)) led, strKind_is _ _ _ _, ?_, ms ++ [(y, D3, ys, k3)], _, ?_, ?_, rfl⟩
      · have := List.perm_middle (a := (D3, listO ys k3)) (l₁ := (it, o2) :: (D, od) :: mlL ms) (l₂ := (L2 + 1, cellO (some (.str y ty))) :: (ta, listO tv tn) :: (md, omd) :: celL C.L none none none none (some (.ref ta)) (some (.ref md)) led)
        simpa [mlL] using this
      · rw [stored_end (by rw [mlK_fst, hms.ks]; exact take_fresh hn hy)]
        simp [mlK]
      · rw [List.take_add_one, hy]
        exact hms.snoc hK
  · rintro kvs od l hod ⟨ms, c, rfl, hms, rfl⟩
    refine ⟨(D, od) :: (mlL ms ++ (ta, listO tv tn) :: (md, omd) :: celL C.L none none none none (some (.ref ta)) (some (.ref md)) led), ?_, ?_⟩
    · exact .cons₂ _ (.append (.refl _) (.cons _ (.refl _)))
    rw [htl, List.take_length] at hms
    show T _ _ ([(D, od)] ++ baseL C.L none none none none ms ta tv tn md omd led) _ _
    refine r_stMat rfl rfl rfl ?_
    with_reducible refine leafN (by assumption) ?_
    refine r_lawOut e3 eE ?_
    exact h D od ms hD hod hms
end
end NC
namespace ND
open F1 F2 F3 F4 F5 F6 NB NC
theorem inter_lt : ∀ l : List Nat, (∀ c ∈ l, c < 1114112) → ∀ c ∈ l.intersperse 46, c < 1114112
  | [], _, _, hc => by cases hc
  | [a], h, c, hc => h c hc
  | a :: b :: l, h, c, hc => by
    simp only [List.intersperse, List.mem_cons] at hc
    rcases hc with rfl | rfl | hc
    · exact h c (by simp)
    · decide
    · exact inter_lt (b :: l) (fun c hc => h c (by simp [List.mem_cons.mp hc])) c hc
theorem txs_ok {k : Str} (h : TxS k) : PyData.strOk k = true := by
  obtain ⟨⟨d, l⟩, ha, rfl⟩ := h
  have hl := inter_lt l (fun c hc => by rcases ha.1 c hc with rfl | rfl | rfl | rfl <;> decide)
  show (((if d then [46] else []) ++ l.intersperse 46).toArray).all (· < 0x110000) = true
  rw [Array.all_eq_true_iff_forall_mem]
  intro c hc
  simp only [List.mem_toArray, List.mem_append] at hc
  rcases hc with hc | hc
  · cases d
    · cases hc
    · simp at hc; subst hc; decide
  · simpa using hl c hc
theorem txs_len {k : Str} (h : TxS k) : k.length ≤ 9 := by
  obtain ⟨⟨d, l⟩, ha, rfl⟩ := h
  have h1 := mkT_len d l
  have h2 := ha.len
  simp only at h2
  show (mkT d l).length ≤ 9
  omega
theorem free_eq (K : List Str) (z : Str) : (((z :: Mf K Uo z).filter (dblB K Uo)) == []) = freeB K Uo z := by
  unfold freeB
  rw [List.filter_cons]
  cases q : dblB K Uo z with
  | true => simp
  | false =>
    simp only [Bool.false_eq_true, if_false, Bool.not_false, Bool.true_and]
    rw [Bool.eq_iff_iff]
    simp [List.filter_eq_nil_iff, List.all_eq_true]
theorem any_dbl {K : List Str} {z : Str} (h : z ∈ K) : ((K.filter (dblB K Uo)).any (· == z)) = dblB K Uo z := by
  rw [Bool.eq_iff_iff, List.any_eq_true]
  constructor
  · rintro ⟨y, hy, e⟩
    obtain rfl : y = z := by simpa using e
    exact (List.mem_filter.mp hy).2
  · intro hd
    exact ⟨z, List.mem_filter.mpr ⟨h, hd⟩, by simp⟩
theorem ml_at {K ks : List Str} {ms : ML} (h : MlOk K ms ks) {z : Str} (hz : z ∈ ks) : ∃ l vs n, valueAt (mlK ms) z = some (.ref l) ∧ (l, listO vs n) ∈ mlL ms ∧ StrsAre vs (Mf K Uo z) := by
  rw [← h.ks] at hz
  obtain ⟨q, hq, rfl⟩ := List.mem_map.mp hz
  cases f : (mlK ms).find? fun kv => decide (kv.1 = q.1) with
  | none => exact absurd (List.find?_eq_none.mp f (q.1, .ref q.2.1) (List.mem_map.mpr ⟨q, hq, rfl⟩)) (by simp)
  | some r =>
    obtain ⟨p, hp, rfl⟩ := List.mem_map.mp (List.mem_of_find?_eq_some f)
    have e : p.1 = q.1 := by simpa using List.find?_some f
    refine ⟨p.2.1, p.2.2.1, p.2.2.2, by unfold valueAt; rw [f]; rfl, List.mem_map.mpr ⟨p, hp, rfl⟩, ?_⟩
    rw [← e]
    exact h.all p hp
theorem Mf_sub {K : List Str} {k z : Str} (h : z ∈ Mf K Uo k) : z ∈ K := (mem_M.mp h).1
section
variable {C : Cx} {m : Loc} {led : Led}
theorem lawS {ta md mx : Addr} {tv : List Value} {tn : Nat} {omd omx : Obj} {ms : ML} {ks : List Str} {Q : Flow → Loc → Led → Prop} (R : Room C 6) (hn : ks.Nodup) (hx : ∀ k ∈ ks, TxS k) (hT : StrsAre tv ks) (hz : ks.length ≤ 10)
    (hms : MlOk ks ms ks) (hox : omx.IsDictOf (strKind PG C.W.w) (mlK ms))
    (h : ∀ sa sv sn da dv dn fa fv fn, StrsAre dv (ks.filter (dblB ks Uo)) → StrsAre fv (ks.filter (freeB ks Uo)) →
      T C m ((fa, listO fv fn) :: (da, listO dv dn) :: (sa, listO sv sn) :: (mx, omx) :: baseL C.L (some (.ref fa)) (some (.ref da)) (some (.ref sa)) (some (.ref mx)) ms ta tv tn md omd led) (execs (lawB C.W.w.params 7) (lawE C.W.w.params C.L)) Q) :
    T C m ((mx, omx) :: baseL C.L none none none (some (.ref mx)) ms ta tv tn md omd led) (execs (lawB C.W.w.params 4) (lawE C.W.w.params C.L)) Q := by
  have htl := strsAre_len hT
  refine' r_law (j := 7) ?ho fun e3 eE => ?_
  (case ho => k_is)
  simp only [List.drop_succ_cons, List.drop_zero] at e3 ⊢
  have hTx : ∀ {c6 c5 c4 : Option Value} {C' : Cx}, Has C' (baseL C.L c6 c5 c4 (some (.ref mx)) ms ta tv tn md omd led) (C.L + 1 + 1) (cellO (some (.ref ta))) := hB_txs
  have hMx : ∀ {c6 c5 c4 : Option Value} {C' : Cx}, Has C' (baseL C.L c6 c5 c4 (some (.ref mx)) ms ta tv tn md omd led) (C.L + 1 + 1 + 1) (cellO (some (.ref mx))) := hB_mat
  have hTa : ∀ {c6 c5 c4 : Option Value} {C' : Cx}, Has C' (baseL C.L c6 c5 c4 (some (.ref mx)) ms ta tv tn md omd led) ta (listO tv tn) := hB_ta
  -- small
  with_reducible refine r_consQ fun QQ hQQ => ?_
  refine r_Assign ?_
  refine r_ListComp ?_
  refine' r_LCl R.h ?hcl ?hkd ?hnm ?_
  (case hcl => exact rfl)
  (case hkd => exact rfl)
  (case hnm => decide)
  refine' r_cell rfl (Or.inl rfl) rfl (Has.tail hTx) ?_
  refine ⟨ta, tv, tn, fun i ys => StrsAre ys ((ks.take i).map Txt.lower), rfl, Has.tail hTa, by omega, by simpa using StrsAre.nil, fun i ys q => ?_, ?_, ?_⟩
  · rw [strsAre_len q, List.length_map, List.length_take]; omega
  · intro L3 β3 E3 j v ys m3 a b up3 hvj hK
    obtain ⟨z, tz, hz2, rfl⟩ := strsAre_get' hT hvj
    have hzl := txs_len (hx z (List.mem_of_getElem? hz2))
    refine r_store rfl rfl rfl ?_
    refine r_tests0 (ifT ?_)
    refine r_MCall ?_
    refine r_local rfl rfl rfl rfl ?_
    with_reducible refine r_gmLower ?_
    refine r_cwB0 ?_
    refine r_lower (by omega) fun t' => ?_
    refine ⟨.refl _, ?_⟩
    show StrsAre _ ((ks.take (j + 1)).map Txt.lower)
    rw [List.take_add_one, hz2, List.map_append]
    exact strsAre_snoc hK
  intro sa L3 sv sn hS
  rw [htl, List.take_length] at hS
  refine CompEnd.nul ?_
  show T _ _ ([(sa, listO sv sn), (mx, omx)] ++ baseL C.L none none none (some (.ref mx)) ms ta tv tn md omd led) _ _
  refine r_stSml rfl rfl rfl ?_
  have hSa : ∀ {c6 c5 : Option Value} {C' : Cx}, Has C' (baseL C.L c6 c5 (some (.ref sa)) (some (.ref mx)) ms ta tv tn md omd led) (C.L + 1 + 1 + 1 + 1) (cellO (some (.ref sa))) := hB_sml
  with_reducible refine leafN (by assumption) ?_
  show T _ _ ((sa, listO sv sn) :: (mx, omx) :: baseL C.L none none (some (.ref sa)) (some (.ref mx)) ms ta tv tn md omd led) _ _
  -- doubled
  with_reducible refine r_consQ fun QQ hQQ => ?_
  refine r_Assign ?_
  refine r_ListComp ?_
  refine' r_LCl R.h ?hcl ?hkd ?hnm ?_
  (case hcl => exact rfl)
  (case hkd => exact rfl)
  (case hnm => decide)
  refine' r_cell rfl (Or.inl rfl) rfl (Has.tail (Has.tail hTx)) ?_
  refine ⟨ta, tv, tn, fun i ys => StrsAre ys ((ks.take i).filter (dblB ks Uo)), rfl, Has.tail (Has.tail hTa), by omega, by simpa using StrsAre.nil, fun i ys q => strs_filt_len q, ?_, ?_⟩
  · intro L3 β3 E3 j v ys m3 a b up3 hvj hK
    obtain ⟨z, tz, hz2, rfl⟩ := strsAre_get' hT hvj
    have hzK := List.mem_of_getElem? hz2
    have hzl := txs_len (hx z hzK)
    have hSa1 := hSa (c6 := none) (c5 := none) (C' := C)
    refine r_store rfl rfl rfl ?_
    refine r_tests1 ?_
    with_reducible refine r_isCmp ?_
    refine r_MCall ?_
    (refine' r_cell rfl ?hl ?hc ?hv ?_; (case hl => first | exact Or.inl rfl | exact Or.inr rfl); (case hc => exact rfl); (case hv => walk_at "has"))
    refine r_gmCount (Has.tail (Has.tail Has.head)) ?_
    refine r_cwB ?_
    refine r_argCons ?_
    refine r_MCall ?_
    refine r_local rfl rfl rfl rfl ?_
    with_reducible refine r_gmLower ?_
    refine r_cwB0 ?_
    refine r_lower (by omega) fun t' => ?_
    with_reducible refine r_argNil ?_
    refine r_countS (Has.tail (Has.tail Has.head)) hS fun t6 => ?_
    with_reducible refine r_int fun zt => ?_
    with_reducible refine r_gtI ?_
    with_reducible refine r_tBool ?_
    have hdc : decide (1 < (((ks.map Txt.lower).count (Txt.lower z) : Nat) : Int)) = dblB ks Uo z := by
      rw [← dbl_count hn hx hzK]
      exact decide_eq_decide.mpr (by omega)
    rw [hdc]
    cases hq : dblB ks Uo z with
    | true =>
      refine ifT ?_
      refine r_local rfl rfl rfl rfl ?_
      exact ⟨.refl _, strs_filt hz2 hK hq⟩
    | false => exact ifF ⟨.refl _, strs_filt0 hz2 hK hq⟩
  intro da L4 dv dn hD
  rw [htl, List.take_length] at hD
  refine CompEnd.nul ?_
  show T _ _ ([(da, listO dv dn), (sa, listO sv sn), (mx, omx)] ++ baseL C.L none none (some (.ref sa)) (some (.ref mx)) ms ta tv tn md omd led) _ _
  refine r_stDbl rfl rfl rfl ?_
  have hDa : ∀ {c6 : Option Value} {C' : Cx}, Has C' (baseL C.L c6 (some (.ref da)) (some (.ref sa)) (some (.ref mx)) ms ta tv tn md omd led) (C.L + 1 + 1 + 1 + 1 + 1) (cellO (some (.ref da))) := hB_dbl
  with_reducible refine leafN (by assumption) ?_
  show T _ _ ((da, listO dv dn) :: (sa, listO sv sn) :: (mx, omx) :: baseL C.L none (some (.ref da)) (some (.ref sa)) (some (.ref mx)) ms ta tv tn md omd led) _ _
  -- free
  with_reducible refine r_consQ fun QQ hQQ => ?_
  refine r_Assign ?_
  refine r_ListComp ?_
  refine' r_LCl R.h ?hcl ?hkd ?hnm ?_
  (case hcl => exact rfl)
  (case hkd => exact rfl)
  (case hnm => decide)
  refine' r_cell rfl (Or.inl rfl) rfl (Has.tail (Has.tail (Has.tail hTx))) ?_
  refine ⟨ta, tv, tn, fun i ys => StrsAre ys ((ks.take i).filter (freeB ks Uo)), rfl, Has.tail (Has.tail (Has.tail hTa)), by omega, by simpa using StrsAre.nil, fun i ys q => strs_filt_len q, ?_, ?_⟩
  · intro L3 β3 E3 j v ys m3 a b up3 hvj hK
    obtain ⟨z, tz, hz2, rfl⟩ := strsAre_get' hT hvj
    have hzK := List.mem_of_getElem? hz2
    obtain ⟨lz, vz, cz, hvl, hlm, hvz⟩ := ml_at hms hzK
    have hDa1 := hDa (c6 := none) (C' := C)
    have hMx1 := hMx (c6 := none) (c5 := some (.ref da)) (c4 := some (.ref sa)) (C' := C)
    have hLz : Has C (baseL C.L none (some (.ref da)) (some (.ref sa)) (some (.ref mx)) ms ta tv tn md omd led) lz (listO vz cz) := .inl (List.mem_append_left _ hlm)
    have hMz : (Mf ks Uo z).length ≤ 10 := Nat.le_trans (M_len z) hz
    have hvzl := strsAre_len hvz
    refine r_store rfl rfl rfl ?_
    refine r_tests1 ?_
    refine r_isCmp ?_
    refine r_ListComp ?_
    refine' r_LCl R.h ?hcl ?hkd ?hnm ?_
    (case hcl => exact rfl)
    (case hkd => exact rfl)
    (case hnm => decide)
    with_reducible refine r_BinOp ?_
    with_reducible refine r_List ?_
    refine r_argCons ?_
    refine r_local rfl rfl rfl rfl ?_
    with_reducible refine r_argNil ?_
    refine r_newList (Nat.le_of_ble_eq_true rfl) ?_; intro la
    with_reducible refine r_Sub ?_
    (refine' r_cell rfl ?hl ?hc ?hv ?_; (case hl => first | exact Or.inl rfl | exact Or.inr rfl); (case hc => exact rfl); (case hv => walk_at "has"))
    refine r_local rfl rfl rfl rfl ?_
    refine r_dItem (by walk_at "has") hox (strKind_is _ _ _ _) hvl ?_
    refine r_addL (vs := [.str z tz]) (n := 0) Has.head (by walk_at "has") (by rw [sizeLine_eq]; simp; omega) fun lb => ?_
    have hcat : StrsAre ([.str z tz] ++ vz) (z :: Mf ks Uo z) := .cons _ _ hvz
    refine ⟨lb, [.str z tz] ++ vz, 0, fun i ys => StrsAre ys (((z :: Mf ks Uo z).take i).filter (dblB ks Uo)), rfl, Has.head, by simp; omega, by simpa using StrsAre.nil, fun i ys q => strs_filt_len q, ?_, ?_⟩
    · intro L6 β6 E6 j6 v6 ys6 m6 a6 b6 up6 hv6 hK6
      obtain ⟨x, tx6, hx6, rfl⟩ := strsAre_get' hcat hv6
      have hxK : x ∈ ks := by
        rcases List.mem_cons.mp (List.mem_of_getElem? hx6) with rfl | hq
        · exact hzK
        · exact Mf_sub hq
      refine r_store rfl rfl rfl ?_
      refine r_tests1 ?_
      with_reducible refine r_isCmp ?_
      refine r_local rfl rfl rfl rfl ?_
      (refine' r_cell rfl ?hl ?hc ?hv ?_; (case hl => first | exact Or.inl rfl | exact Or.inr rfl); (case hc => exact rfl); (case hv => walk_at "has"))
      refine r_inListS (by walk_at "has") hD ?_
      rw [any_dbl hxK]
      with_reducible refine r_tBool ?_
      cases hq : dblB ks Uo x with
      | true =>
        refine ifT ?_
        refine r_local rfl rfl rfl rfl ?_
        exact ⟨.refl _, strs_filt hx6 hK6 hq⟩
      | false => exact ifF ⟨.refl _, strs_filt0 hx6 hK6 hq⟩
    intro D6 L6 ys6 k6 hK6
    rw [strsAre_len hcat, List.take_length] at hK6
    refine CompEnd.nul ?_
    with_reducible refine r_List ?_
    with_reducible refine r_argNil ?_
    refine r_newList (Nat.le_of_ble_eq_true rfl) ?_; intro za2
    refine r_eqD (k := 3) (Room.of R (by decide) rfl) (RD.list (Has.tail Has.head) (RDs.strs hK6)) (RD.list Has.head RDs.nil) (shaped_strs fun y hy => ?_) rfl ?_
    · rcases List.mem_cons.mp (List.mem_filter.mp hy).1 with rfl | hq
      · exact txs_ok (hx _ hzK)
      · exact txs_ok (hx _ (Mf_sub hq))
    rw [show PyData.list [] = .list (([] : List Str).map .str) from rfl, eqv_strs, free_eq]
    with_reducible refine r_tBool ?_
    cases hq : freeB ks Uo z with
    | true =>
      refine ifT ?_
      refine r_local rfl rfl rfl rfl ?_
      exact ⟨.cons _ (.cons _ (.cons _ (.cons _ (.refl _)))), strs_filt hz2 hK hq⟩
    | false => exact ifF ⟨.cons _ (.cons _ (.cons _ (.cons _ (.refl _)))), strs_filt0 hz2 hK hq⟩
  intro fa L5 fv fn hF
  rw [htl, List.take_length] at hF
  refine CompEnd.nul ?_
  show T _ _ ([(fa, listO fv fn), (da, listO dv dn), (sa, listO sv sn), (mx, omx)] ++ baseL C.L none (some (.ref da)) (some (.ref sa)) (some (.ref mx)) ms ta tv tn md omd led) _ _
  refine r_stFre rfl rfl rfl ?_
  with_reducible refine leafN (by assumption) ?_
  show T _ _ ((fa, listO fv fn) :: (da, listO dv dn) :: (sa, listO sv sn) :: (mx, omx) :: baseL C.L (some (.ref fa)) (some (.ref da)) (some (.ref sa)) (some (.ref mx)) ms ta tv tn md omd led) _ _
  refine r_lawOut e3 eE ?_
  exact h sa sv sn da dv dn fa fv fn hD hF
end
end ND
namespace NE
open F1 F2 F3 F4 F5 NB NC ND G0 G1 G2 G3 G4 G5 G6 G7 G8 G9 GA GB
theorem prep_bool {K KN : List Str} (hn : ∀ y, y ∈ KN ↔ y ∈ K) {bb : Bool} (h1 : bb = true → ∀ a ∈ KN, ∀ b ∈ suAt (Mf K Uo) K a, a ∉ suAt (Mf K Uo) K b) (h2 : bb = false → ∃ a b, b ∈ suAt (Mf K Uo) K a ∧ a ∈ suAt (Mf K Uo) K b) :
    (bb != (K.filter (dblB K Uo) == [])) = false := by
  have e : (K.filter (dblB K Uo) == []) = bb := by
    cases bb with
    | true =>
      simp only [beq_iff_eq, List.filter_eq_nil_iff]
      intro a ha hd
      obtain ⟨j, hj, hne, q1, q2⟩ := dbl_iff.mp hd
      have m1 : a ∈ Mf K Uo j := mem_M.mpr ⟨ha, Ne.symm hne, q2⟩
      have m2 : j ∈ Mf K Uo a := mem_M.mpr ⟨hj, hne, q1⟩
      exact h1 rfl a ((hn a).mpr ha) j (su_mem.mpr ⟨hj, m1⟩) (su_mem.mpr ⟨ha, m2⟩)
    | false =>
      rw [beq_eq_false_iff_ne]
      intro q
      obtain ⟨a, b, s1, s2⟩ := h2 rfl
      obtain ⟨b1, b2⟩ := su_mem.mp s1
      obtain ⟨a1, a2⟩ := su_mem.mp s2
      have hd : dblB K Uo a = true := dbl_iff.mpr ⟨b, b1, (mem_M.mp a2).2.1, (mem_M.mp a2).2.2, (mem_M.mp b2).2.2⟩
      exact List.filter_eq_nil_iff.mp q a a1 hd
  rw [e]; simp
abbrev lawL (L : Addr) (fa da sa mx : Addr) (fv dv sv : List Value) (fn dn sn : Nat) (omx : Obj) (ms : ML) (ta : Addr) (tv : List Value) (tn : Nat) (md : Addr) (omd : Obj) (led : Led) : Led :=
  (fa, listO fv fn) :: (da, listO dv dn) :: (sa, listO sv sn) :: (mx, omx) :: baseL L (some (.ref fa)) (some (.ref da)) (some (.ref sa)) (some (.ref mx)) ms ta tv tn md omd led
structure ToldOk (K : List Str) (ls : List (Addr × List Value × Nat)) : Prop where
  len : ls.length = nR K Uo
  rnd : ∀ (i : Nat) p, ls[i]? = some p → ∃ ss, StrsAre p.2.1 ss ∧ sortedS ss = true ∧ ss.Nodup ∧ ∀ y, y ∈ ss ↔ y ∈ K ∧ freeB K Uo y = true ∧ (Mf K Uo y).length = i
section
variable {C : Cx} {m : Loc} {led : Led} {outer : List Env}
theorem lawR {ta md mx fa da sa : Addr} {tv fv dv sv : List Value} {tn fn dn sn : Nat} {omd omx : Obj} {ms : ML} {ks : List Str} {kvs : List (Str × Value)} {Q : Flow → Loc → Led → Prop} (F : Frm C (lawE C.W.w.params C.L) outer) (R : Room C 14) (hn : ks.Nodup) (hx : ∀ k ∈ ks, TxS k) (hz : ks.length ≤ 10)
    (hms : MlOk ks ms ks) (hox : omx.IsDictOf (strKind PG C.W.w) (mlK ms)) (hmx : (mx == sysModules) = false) (hD : StrsAre dv (ks.filter (dblB ks Uo)))
    (hod : omd.IsDictOf (strKind PG C.W.w) kvs) (hM : F6.ModesOk 10 kvs) (hks : kvs.map (·.1) = ks)
    (h : ∀ m' ro rg og gkvs ls c, m' "rounds" = some (.ref ro) → m' "rights" = some (.ref rg) → og.IsDictOf (strKind PG C.W.w) gkvs → (∀ k ∈ ks, freeB ks Uo k = true → ∃ t, valueAt gkvs k = some (.int (RTf ks Uo (mdOf kvs) k) t)) → ToldOk ks ls →
      T C m' ((ro, listO (rlV ls) c) :: (rg, og) :: (rlL ls ++ lawL C.L fa da sa mx fv dv sv fn dn sn omx ms ta tv tn md omd led)) (execs (lawB C.W.w.params 12) (lawE C.W.w.params C.L)) Q) :
    T C m (lawL C.L fa da sa mx fv dv sv fn dn sn omx ms ta tv tn md omd led) (execs (lawB C.W.w.params 7) (lawE C.W.w.params C.L)) Q := by
  refine' r_law (j := 12) ?ho fun e3 eE => ?_
  (case ho => k_is)
  rw [eE] at F
  simp only [List.drop_succ_cons, List.drop_zero] at e3 ⊢
  have O := ordU hn hx
  have hfst : (mlK ms).map (·.1) = ks := by rw [mlK_fst, hms.ks]
  have hMx1 : Has C (lawL C.L fa da sa mx fv dv sv fn dn sn omx ms ta tv tn md omd led) (C.L + 1 + 1 + 1) (cellO (some (.ref mx))) := Has.tail (Has.tail (Has.tail (Has.tail hB_mat)))
  have hMd1 : Has C (lawL C.L fa da sa mx fv dv sv fn dn sn omx ms ta tv tn md omd led) (C.L + 1) (cellO (some (.ref md))) := Has.tail (Has.tail (Has.tail (Has.tail hB_mds)))
  have hDa1 : Has C (lawL C.L fa da sa mx fv dv sv fn dn sn omx ms ta tv tn md omd led) (C.L + 1 + 1 + 1 + 1 + 1) (cellO (some (.ref da))) := Has.tail (Has.tail (Has.tail (Has.tail hB_dbl)))
  have hMX : Has C (lawL C.L fa da sa mx fv dv sv fn dn sn omx ms ta tv tn md omd led) mx omx := Has.tail (Has.tail (Has.tail Has.head))
  have hMD : Has C (lawL C.L fa da sa mx fv dv sv fn dn sn omx ms ta tv tn md omd led) md omd := Has.tail (Has.tail (Has.tail (Has.tail hB_md)))
  have hDA : Has C (lawL C.L fa da sa mx fv dv sv fn dn sn omx ms ta tv tn md omd led) da (listO dv dn) := Has.tail Has.head
  have hML : ∀ {l : Addr} {vs : List Value} {n : Nat}, (l, listO vs n) ∈ mlL ms → Has C (lawL C.L fa da sa mx fv dv sv fn dn sn omx ms ta tv tn md omd led) l (listO vs n) := fun q => .inl (by
    refine List.mem_cons_of_mem _ (List.mem_cons_of_mem _ (List.mem_cons_of_mem _ (List.mem_cons_of_mem _ (List.mem_append_left _ q)))))
  generalize hLD : lawL C.L fa da sa mx fv dv sv fn dn sn omx ms ta tv tn md omd led = LD at *
  with_reducible refine r_consQ fun QQ hQQ => ?_
  refine r_Assign ?_
  refine r_Call ?_
  (refine' r_global rfl rfl rfl ?e ?_; (case e => k_is))
  refine' r_cwK ?hf ?_; (case hf => k_is)
  refine r_argCons ?_
  (refine' r_cell rfl ?hl ?hc ?hv ?_; (case hl => first | exact Or.inl rfl | exact Or.inr rfl); (case hc => exact rfl); (case hv => walk_at "has"))
  with_reducible refine r_argNil ?_
  refine init_spec (M := Mf ks Uo) (by walk_at "room") hMX hox hmx ?_ ?_ (by rw [List.length_map, hms.len]; omega) fun x dx d ox od nn t1 t2 hsys hf B hkk hnl => ?_
  · intro p hp
    obtain ⟨q, hq, rfl⟩ := List.mem_map.mp hp
    exact ⟨q.2.1, q.2.2.1, q.2.2.2, rfl, hML (List.mem_map.mpr ⟨q, hq, rfl⟩), hms.all q hq⟩
  · intro p hp
    rw [hfst]
    exact ⟨M_nd O _, by have := M_len (K := ks) (U := Uo) p.1; omega, fun j hj => Mf_sub hj⟩
  rw [hfst] at B hkk
  have hxx : x ≠ x ∨ True := .inr trivial
  refine r_store rfl rfl rfl ?_
  with_reducible refine leafN (by assumption) ?_
  have hsu : ∀ k j, j ∈ suAt (Mf ks Uo) ks k → j ∈ keysOf nn := fun k j hj => (hkk j).mpr (su_mem.mp hj).1
  have hsl : ∀ k, (suAt (Mf ks Uo) ks k).length ≤ 20 := fun k => Nat.le_trans (List.length_filter_le _ _) (by omega)
  -- prepared
  with_reducible refine r_consQ fun QQ hQQ => ?_
  refine r_If ?_
  with_reducible refine r_isCmp ?_
  refine r_Call ?_
  (refine' r_global rfl rfl rfl ?e ?_; (case e => k_is))
  refine' r_cwK ?hf ?_; (case hf => k_is)
  refine r_argCons ?_
  refine r_local rfl rfl rfl rfl ?_
  with_reducible refine r_argNil ?_
  refine prepared_spec (pre := []) (post := LD) F (by walk_at "room") hf hsys B hsu (fun a b c hb hc => ?_) (fun a ha => ?_) (by omega) hsl fun bb r ox1 rv rc hf1 hr hb1 hb2 => ?_
  · obtain ⟨b1, b2⟩ := su_mem.mp hb
    obtain ⟨c1, c2⟩ := su_mem.mp hc
    obtain ⟨a1, a2, a3⟩ := mem_M.mp b2
    obtain ⟨d1, d2, d3⟩ := mem_M.mp c2
    by_cases e : c = a
    · exact .inl e
    · exact .inr (su_mem.mpr ⟨c1, mem_M.mpr ⟨a1, Ne.symm e, O.tr c c1 b b1 a a1 d3 a3⟩⟩)
  · exact not_self (su_mem.mp ha).2
  have hP : ∀ {l0 : Led} {ox1 od1 : Obj} {ns1 : List Nd} {rv1 : List Value} {rc1 : Nat} {a : Addr} {o : Obj}, Has C LD a o → Has C (l0 ++ RL x dx d r ox1 od1 ns1 rv1 rc1 LD) a o := fun q => by
    rcases q with q | q
    · exact .inl (List.mem_append_right _ (List.mem_append_right _ (List.mem_cons_of_mem _ q)))
    · exact .inr q
  with_reducible refine r_Cmp ?_
  refine' r_cell rfl (Or.inl rfl) rfl (hP hDa1) ?_
  with_reducible refine r_List ?_
  with_reducible refine r_argNil ?_
  refine r_newList (Nat.le_of_ble_eq_true rfl) ?_; intro za1
  refine r_eqD (k := 5) (by walk_at "room") (RD.list (Has.tail (hP (l0 := []) hDA)) (RDs.strs hD)) (RD.list Has.head RDs.nil) (shaped_strs fun y hy => txs_ok (hx y (List.mem_filter.mp hy).1)) rfl ?_
  rw [show PyData.list [] = .list (([] : List Str).map .str) from rfl, eqv_strs]
  refine r_neB ?_
  rw [prep_bool hkk hb1 hb2]
  with_reducible refine r_tBool ?_
  refine iteB (fun hb => absurd hb (by decide)) (fun hb => ?_)
  with_reducible refine r_nil ?_
  with_reducible refine leafN (by assumption) ?_
  refine r_drop (led' := [] ++ RL x dx d r ox1 od nn rv rc LD) ?_ (List.sublist_cons_self _ _)
  -- run
  with_reducible refine r_consQ fun QQ hQQ => ?_
  refine r_Assign ?_
  refine r_Call ?_
  (refine' r_global rfl rfl rfl ?e ?_; (case e => k_is))
  refine' r_cwK ?hf ?_; (case hf => k_is)
  refine r_argCons ?_
  refine r_local rfl rfl rfl rfl ?_
  refine r_argCons ?_
  refine' r_cell rfl (Or.inl rfl) rfl (hP hMx1) ?_
  refine r_argCons ?_
  refine' r_cell rfl (Or.inl rfl) rfl (hP hMd1) ?_
  with_reducible refine r_argNil ?_
  have hKN : (keysOf nn).Nodup := B.nd
  have Z := sched O hKN hkk (by omega) (mdOf kvs)
  refine run_spec (pre := []) (post := LD) (by walk_at "room") hf1 hsys B hr hsu hsl hMX hox (fun k hk => ?_) (fun k hk => txs_ok (hx k ((hkk k).mp hk))) (fun k hk => ⟨by have := M_len (K := ks) (U := Uo) k; omega, fun y hy => ?_⟩) hMD hod (fun k hk => mdOf_spec hM (by rw [hks]; exact (hkk k).mp hk)) Z fun tu ro rg og gkvs ls c nn2 ox2 od2 rc2 a2 t3 t4 hf2 hog hgr hll hls => ?_
  · obtain ⟨l, vs, n, e1, e2, e3⟩ := ml_at hms ((hkk k).mp hk)
    exact ⟨l, vs, n, e1, hML e2, e3⟩
  · have := txs_len (hx y (Mf_sub hy)); omega
  refine r_store rfl rfl rfl ?_
  with_reducible refine leafN (by assumption) ?_
  with_reducible refine r_consQ fun QQ hQQ => ?_
  refine r_If ?_
  with_reducible refine r_isOr ?_
  with_reducible refine r_isCmp ?_
  refine r_local rfl rfl rfl rfl ?_
  with_reducible refine r_none ?_
  refine r_is rfl ?_
  rw [show (Value.ref tu == Value.none) = false from rfl]
  with_reducible refine r_tBool ?_
  refine iteB (fun hb => absurd hb (by decide)) (fun hb => ?_)
  with_reducible refine r_isOr ?_
  refine r_isPlain ?_
  refine r_MCall ?_
  refine r_local rfl rfl rfl rfl ?_
  refine r_gmAct (hSx (pre := _ :: _ :: _ :: (rlL ls ++ []))) (hSdx (pre := _ :: _ :: _ :: (rlL ls ++ []))) hf2 rfl ?_
  show T _ _ _ (callWith _ (Value.ref 142) [Value.ref x] _ _) _
  refine' r_cwK0 ?kf ?_
  (case kf => k_is)
  refine active_spec (pre := _ :: _ :: _ :: (rlL ls ++ [])) (by walk_at "room") hf2 (by simp) ?_
  with_reducible refine r_tBool ?_
  have hact : (decide (a2 < a2) || !([] : List Value).isEmpty) = false := by simp
  rw [hact]
  skip
  refine iteB (fun hb => absurd hb (by decide)) (fun hb => ?_)
  with_reducible refine r_isOrNil ?_
  refine iteB (fun hb => absurd hb (by decide)) (fun hb => ?_)
  with_reducible refine r_nil ?_
  with_reducible refine leafN (by assumption) ?_
  with_reducible refine r_consQ fun QQ hQQ => ?_
  refine r_AssignTup ?_
  refine r_local rfl rfl rfl rfl ?_
  refine r_asTup ?_
  refine r_unpackTup R.h Has.head rfl ?_
  refine r_asCons (r_asName ?_)
  refine r_store rfl rfl rfl ?_
  refine r_asCons (r_asName ?_)
  refine r_store rfl rfl rfl ?_
  refine r_asNil ?_
  with_reducible refine leafN (by assumption) ?_
  refine r_drop (led' := (ro, listO (rlV ls) c) :: (rg, og) :: (rlL ls ++ LD)) ?_ ?_
  rotate_left
  · refine .cons _ (.cons₂ _ (.cons₂ _ ?_))
    rw [List.append_nil]
    refine List.Sublist.append (.refl _) ?_
    show List.Sublist LD (SL x dx d ox2 od2 nn2 ++ (r, listO [] rc2) :: LD)
    exact (List.sublist_cons_self _ _).trans (List.sublist_append_right _ _)
  refine r_lawOut e3 eE ?_
  refine h _ ro rg og gkvs ls c (by walk_at "look") (by walk_at "look") hog (fun k hk hf => ?_) ⟨hll, fun i p hp => ?_⟩
  · exact hgr (Mf ks Uo k).length (nR_lt hk hf) k (((rnd_all O hKN hkk _).mem k).mpr ⟨hk, hf, rfl⟩)
  · obtain ⟨ss, s1, s2, s3⟩ := hls i p hp
    have hR := rnd_all O hKN hkk i
    refine ⟨ss, s1, s3, s2.nodup_iff.mpr hR.nd, fun y => ?_⟩
    rw [s2.mem_iff]
    exact hR.mem y
end
end NE
namespace NF
open F1 F2 F3 F4 F5 NB NC ND NE GB
section
variable {C : Cx} {m : Loc} {led : Led} {outer : List Env}
theorem lawZ {ta md mx fa da sa ro rg : Addr} {tv fv dv sv : List Value} {tn fn dn sn c : Nat} {omd omx og : Obj} {ms : ML} {ks : List Str} {ls : List (Addr × List Value × Nat)} {Q : Flow → Loc → Led → Prop} (R : Room C 14) (hn : ks.Nodup) (hx : ∀ k ∈ ks, TxS k) (hz : ks.length ≤ 10)
    (hms : MlOk ks ms ks) (hox : omx.IsDictOf (strKind PG C.W.w) (mlK ms)) (hF : StrsAre fv (ks.filter (freeB ks Uo))) (hT : ToldOk ks ls) (e1 : m "rounds" = some (.ref ro)) (e2 : m "rights" = some (.ref rg))
    (h : ∀ m', m' "rights" = some (.ref rg) → T C m' ((ro, listO (rlV ls) c) :: (rg, og) :: (rlL ls ++ lawL C.L fa da sa mx fv dv sv fn dn sn omx ms ta tv tn md omd led)) (execs (lawB C.W.w.params 14) (lawE C.W.w.params C.L)) Q) :
    T C m ((ro, listO (rlV ls) c) :: (rg, og) :: (rlL ls ++ lawL C.L fa da sa mx fv dv sv fn dn sn omx ms ta tv tn md omd led)) (execs (lawB C.W.w.params 12) (lawE C.W.w.params C.L)) Q := by
  refine' r_law (j := 14) ?ho fun e3 eE => ?_
  (case ho => k_is)
  simp only [List.drop_succ_cons, List.drop_zero] at e3 ⊢
  have O := ordU hn hx
  have hMx1 : Has C ((ro, listO (rlV ls) c) :: (rg, og) :: (rlL ls ++ lawL C.L fa da sa mx fv dv sv fn dn sn omx ms ta tv tn md omd led)) (C.L + 1 + 1 + 1) (cellO (some (.ref mx))) := Has.tail (Has.tail (Has.apR (Has.tail (Has.tail (Has.tail (Has.tail hB_mat))))))
  have hFa1 : Has C ((ro, listO (rlV ls) c) :: (rg, og) :: (rlL ls ++ lawL C.L fa da sa mx fv dv sv fn dn sn omx ms ta tv tn md omd led)) (C.L + 1 + 1 + 1 + 1 + 1 + 1) (cellO (some (.ref fa))) := Has.tail (Has.tail (Has.apR (Has.tail (Has.tail (Has.tail (Has.tail hB_fre))))))
  have hMX : Has C ((ro, listO (rlV ls) c) :: (rg, og) :: (rlL ls ++ lawL C.L fa da sa mx fv dv sv fn dn sn omx ms ta tv tn md omd led)) mx omx := Has.tail (Has.tail (Has.apR (Has.tail (Has.tail (Has.tail Has.head)))))
  have hFA : Has C ((ro, listO (rlV ls) c) :: (rg, og) :: (rlL ls ++ lawL C.L fa da sa mx fv dv sv fn dn sn omx ms ta tv tn md omd led)) fa (listO fv fn) := Has.tail (Has.tail (Has.apR (Has.head)))
  have hRO : Has C ((ro, listO (rlV ls) c) :: (rg, og) :: (rlL ls ++ lawL C.L fa da sa mx fv dv sv fn dn sn omx ms ta tv tn md omd led)) ro (listO (rlV ls) c) := Has.head
  have hLS : ∀ p ∈ ls, Has C ((ro, listO (rlV ls) c) :: (rg, og) :: (rlL ls ++ lawL C.L fa da sa mx fv dv sv fn dn sn omx ms ta tv tn md omd led)) p.1 (listO p.2.1 p.2.2) := fun p hp => .inl (by
    refine List.mem_cons_of_mem _ (List.mem_cons_of_mem _ (List.mem_append_left _ (List.mem_map.mpr ⟨p, hp, rfl⟩))))
  have hML : ∀ {l : Addr} {vs : List Value} {n : Nat}, (l, listO vs n) ∈ mlL ms → Has C ((ro, listO (rlV ls) c) :: (rg, og) :: (rlL ls ++ lawL C.L fa da sa mx fv dv sv fn dn sn omx ms ta tv tn md omd led)) l (listO vs n) := fun q => .inl (by
    refine List.mem_cons_of_mem _ (List.mem_cons_of_mem _ (List.mem_append_right _ (List.mem_cons_of_mem _ (List.mem_cons_of_mem _ (List.mem_cons_of_mem _ (List.mem_cons_of_mem _ (List.mem_append_left _ q))))))))
  generalize hLD : (ro, listO (rlV ls) c) :: (rg, og) :: (rlL ls ++ lawL C.L fa da sa mx fv dv sv fn dn sn omx ms ta tv tn md omd led) = LD at *
  have hfl := strsAre_len hF
  have hfz : (ks.filter (freeB ks Uo)).length ≤ 10 := Nat.le_trans (List.length_filter_le _ _) hz
  with_reducible refine r_consQ fun QQ hQQ => ?_
  refine r_Assign ?_
  refine r_Call ?_
  (refine' r_builtin rfl rfl rfl rfl ?e ?hv ?hn ?_; (case e => k_is); (case hv => boot_by_name); (case hn => decide))
  refine r_cwT ?_
  refine r_argCons ?_
  with_reducible refine r_BinOp ?_
  with_reducible refine r_int fun zt => ?_
  refine r_Call ?_
  (refine' r_builtin rfl rfl rfl rfl ?e ?hv ?hn ?_; (case e => k_is); (case hv => boot_by_name); (case hn => decide))
  refine r_cwB ?_
  refine r_argCons ?_
  with_reducible refine r_BinOp ?_
  with_reducible refine r_List ?_
  refine r_argCons ?_
  with_reducible refine r_Unary ?_
  with_reducible refine r_int fun zt => ?_
  with_reducible refine r_neg fun zt => ?_
  with_reducible refine r_argNil ?_
  refine r_newList (Nat.le_of_ble_eq_true rfl) ?_; intro za1
  refine r_ListComp ?_
  refine' r_LCl R.h ?hcl ?hkd ?hnm ?_
  (case hcl => exact rfl)
  (case hkd => exact rfl)
  (case hnm => decide)
  (refine' r_cell rfl ?hl ?hc ?hv ?_; (case hl => first | exact Or.inl rfl | exact Or.inr rfl); (case hc => exact rfl); (case hv => walk_at "has"))
  refine ⟨fa, fv, fn, fun i ys => IntsAre ys (((ks.filter (freeB ks Uo)).take i).map fun k => ((Mf ks Uo k).length : Int)), rfl, by walk_at "has", by omega, by simpa using IntsAre.nil, fun i ys q => ?_, ?_, ?_⟩
  · rw [q.length, List.length_map, List.length_take]; omega
  · intro L3 β3 E3 j v ys m3 a b up3 hvj hK
    obtain ⟨z, tz, hz2, rfl⟩ := strsAre_get' hF hvj
    have hzK := (List.mem_filter.mp (List.mem_of_getElem? hz2)).1
    obtain ⟨lz, vz, cz, hvl, hlm, hvz⟩ := ml_at hms hzK
    have hLz := hML hlm
    have hMz : (Mf ks Uo z).length ≤ 10 := Nat.le_trans (M_len z) hz
    have hvzl := strsAre_len hvz
    refine r_store rfl rfl rfl ?_
    refine r_tests0 (F6.ifT ?_)
    refine r_Call ?_
    (refine' r_builtin rfl rfl rfl rfl ?e ?hv ?hn ?_; (case e => k_is); (case hv => boot_by_name); (case hn => decide))
    refine r_cwB ?_
    refine r_argCons ?_
    with_reducible refine r_Sub ?_
    (refine' r_cell rfl ?hl ?hc ?hv ?_; (case hl => first | exact Or.inl rfl | exact Or.inr rfl); (case hc => exact rfl); (case hv => walk_at "has"))
    refine r_local rfl rfl rfl rfl ?_
    refine r_dItem (by walk_at "has") hox (strKind_is _ _ _ _) hvl ?_
    with_reducible refine r_argNil ?_
    refine r_lenList (by walk_at "has") (by omega) fun t4 => ?_
    refine ⟨.refl _, ?_⟩
    show IntsAre _ (((ks.filter (freeB ks Uo)).take (j + 1)).map _)
    rw [List.take_add_one, hz2, List.map_append, hvzl]
    exact F6.intsAre_snoc hK
  intro D3 L3 ys3 k3 hK3
  rw [hfl, List.take_length] at hK3
  refine F6.CompEnd.nul ?_
  refine r_addL (vs := [.int (-1) _]) (n := 0) (Has.tail Has.head) Has.head (by rw [sizeLine_eq, hK3.length, List.length_map]; simp; omega) fun l3 => ?_
  with_reducible refine r_argNil ?_
  refine r_maxI R.h Has.head (.cons _ _ hK3) (by simp) fun M t5 hM1 hM2 => ?_
  have hNR := nR_max hM1 hM2
  refine r_add fun t8 => ?_
  with_reducible refine r_argNil ?_
  refine r_range1 fun rr t6 t7 => ?_
  rw [hNR]
  have hnb : nR ks Uo ≤ 20 := (sched O hn (fun _ => Iff.rfl) (by omega) (fun _ => 0)).bd
  refine r_drop (led' := (rr, rangeO 0 ((nR ks Uo : Nat) : Int) 1 t6 t8 t7) :: LD) ?_ (.cons₂ _ (.cons _ (.cons _ (.cons _ (.refl _)))))
  refine r_store rfl rfl rfl ?_
  with_reducible refine leafN (by assumption) ?_
  with_reducible refine r_consQ fun QQ hQQ => ?_
  refine r_If ?_
  with_reducible refine r_isCmp ?_
  (refine' r_local rfl rfl rfl ?hv ?_; (case hv => walk_at "look"))
  refine r_ListComp ?_
  refine' r_LC ?hcl ?hkd ?hnm ?_
  (case hcl => exact rfl)
  (case hkd => exact rfl)
  (case hnm => decide)
  refine r_local rfl rfl rfl rfl ?_
  refine r_iterRange (n := nR ks Uo) Has.head (by split <;> omega) (by decide) (by decide) (by omega) (by omega) fun it => ?_
  refine ⟨it, nR ks Uo, fun i v ex => (∃ t, v = .int ((0 : Int) + i) t) ∧ ex = [], fun i o => o = riO (0 + (i : Nat)) 1 (((nR ks Uo : Nat) : Int) - (i : Nat)), _, (rr, rangeO 0 ((nR ks Uo : Nat) : Int) 1 t6 t8 t7) :: LD, rfl, .refl _, by simp, by omega, fun D L2 β2 E2 up2 => ?_⟩
  obtain ⟨KK, hKK⟩ : ∃ KK : Nat → List Value → Led → Prop, ∀ i ys l, KK i ys l ↔ (Ex2 fun qs cc => A4 (ys = rlV qs) (qs.length = i) ((∀ (j : Nat) p, qs[j]? = some p → ∃ ss, StrsAre p.2.1 ss ∧ sortedS ss = true ∧ ss.Nodup ∧ ∀ y, y ∈ ss ↔ y ∈ ks ∧ freeB ks Uo y = true ∧ (Mf ks Uo y).length = j)) (l = rlL qs ++ (L2 + 1, cellO cc) :: (rr, rangeO 0 ((nR ks Uo : Nat) : Int) 1 t6 t8 t7) :: LD)) := ⟨_, fun _ _ _ => Iff.rfl⟩
  refine ⟨_, KK, it_range R.h, ?_, ?_, ?_, ?_⟩
  · intro i ys l k hk
    obtain ⟨qs, cc, rfl, hql, hqs, rfl⟩ := (hKK _ _ _).mp hk
    exact ⟨trivial, by simp [hql]⟩
  · exact (hKK _ _ _).mpr ⟨[], none, rfl, rfl, by simp, rfl⟩
  · rintro i v ex ys m2 o2 k2 l hi2 ⟨⟨tv2, rfl⟩, rfl⟩ hS hk
    obtain ⟨qs, cc, rfl, hql, hqs, rfl⟩ := (hKK _ _ _).mp hk
    refine r_storeCell (pre := (it, o2) :: (D, listO (rlV qs) k2) :: rlL qs) rfl rfl rfl rfl ?_
    refine r_tests0 (F6.ifT ?_)
    refine r_postP (r_post ?_)
    generalize hLE : (it, o2) :: (D, listO (rlV qs) k2) :: rlL qs ++ (L2 + 1, cellO (some (.int ((0 : Int) + i) tv2))) :: (rr, rangeO 0 ((nR ks Uo : Nat) : Int) 1 t6 t8 t7) :: LD = LE
    have hup : ∀ {a : Addr} {o : Obj}, Has C LD a o → Has C LE a o := fun q => by
      subst hLE
      rcases q with q | q
      · exact .inl (by simp [q])
      · exact .inr q
    have hSz : Has C LE (L2 + 1) (cellO (some (.int ((0 : Int) + i) tv2))) := by subst hLE; exact .inl (by simp)
    have hMx2 := hup hMx1
    have hFa2 := hup hFa1
    have hMX2 := hup hMX
    have hFA2 := hup hFA
    refine r_Call ?_
    (refine' r_builtin rfl rfl rfl rfl ?e ?hv ?hn ?_; (case e => k_is); (case hv => boot_by_name); (case hn => decide))
    refine r_cwB ?_
    refine r_argCons ?_
    refine r_ListComp ?_
    refine' r_LCl R.h ?hcl ?hkd ?hnm ?_
    (case hcl => exact rfl)
    (case hkd => exact rfl)
    (case hnm => decide)
    (refine' r_cell rfl ?hl ?hc ?hv ?_; (case hl => first | exact Or.inl rfl | exact Or.inr rfl); (case hc => exact rfl); (case hv => walk_at "has"))
    refine ⟨fa, fv, fn, fun j ys => StrsAre ys (((ks.filter (freeB ks Uo)).take j).filter fun k => decide ((Mf ks Uo k).length = i)), rfl, by walk_at "has", by omega, by simpa using StrsAre.nil, fun _ _ q => strs_filt_len q, ?_, ?_⟩
    · intro L3 β3 E3 j v ys m3 a b up3 hvj hK
      obtain ⟨z, tz, hz2, rfl⟩ := strsAre_get' hF hvj
      have hzK := (List.mem_filter.mp (List.mem_of_getElem? hz2)).1
      obtain ⟨lz, vz, cz, hvl, hlm, hvz⟩ := ml_at hms hzK
      have hLz := hup (hML hlm)
      have hMz : (Mf ks Uo z).length ≤ 10 := Nat.le_trans (M_len z) hz
      have hvzl := strsAre_len hvz
      refine r_store rfl rfl rfl ?_
      refine r_tests1 ?_
      with_reducible refine r_isCmp ?_
      refine r_Call ?_
      (refine' r_builtin rfl rfl rfl rfl ?e ?hv ?hn ?_; (case e => k_is); (case hv => boot_by_name); (case hn => decide))
      refine r_cwB ?_
      refine r_argCons ?_
      with_reducible refine r_Sub ?_
      (refine' r_cell rfl ?hl ?hc ?hv ?_; (case hl => first | exact Or.inl rfl | exact Or.inr rfl); (case hc => exact rfl); (case hv => walk_at "has"))
      refine r_local rfl rfl rfl rfl ?_
      refine r_dItem (by walk_at "has") hox (strKind_is _ _ _ _) hvl ?_
      with_reducible refine r_argNil ?_
      refine r_lenList (by walk_at "has") (by omega) fun t4 => ?_
      (refine' r_cell rfl ?hl ?hc ?hv ?_; (case hl => first | exact Or.inl rfl | exact Or.inr rfl); (case hc => exact rfl); (case hv => walk_at "has"))
      with_reducible refine r_eqI ?_
      with_reducible refine r_tBool ?_
      have hd : (((vz.length : Nat) : Int) == (0 : Int) + (i : Int)) = decide ((Mf ks Uo z).length = i) := by
        rw [hvzl, Bool.eq_iff_iff, beq_iff_eq, decide_eq_true_eq]; omega
      rw [hd]
      cases hq : decide ((Mf ks Uo z).length = i) with
      | true =>
        refine F6.ifT ?_
        refine r_local rfl rfl rfl rfl ?_
        exact ⟨.refl _, strs_filt hz2 hK hq⟩
      | false => exact ifF ⟨.refl _, strs_filt0 hz2 hK hq⟩
    intro D4 L4 ys4 k4 hK4
    rw [hfl, List.take_length] at hK4
    refine F6.CompEnd.nul ?_
    with_reducible refine r_argNil ?_
    have hl4 : ys4.length < 64 := by
      rw [strsAre_len hK4]
      have := List.length_filter_le (fun k => decide ((Mf ks Uo k).length = i)) (ks.filter (freeB ks Uo))
      omega
    refine r_sortedL Has.head hK4 hl4 fun sa2 out ss' k5 h1 h2 h3 => ?_
    refine ⟨(sa2, listO out k5) :: LE, .cons₂ _ (.cons _ (.refl _)), (it, o2) :: (D, listO (rlV qs) k2) :: (rlL (qs ++ [(sa2, out, k5)]) ++ (L2 + 1, cellO (some (.int ((0 : Int) + i) tv2))) :: (rr, rangeO 0 ((nR ks Uo : Nat) : Int) 1 t6 t8 t7) :: LD), ?_, _, .refl _, (hKK _ _ _).mpr ⟨qs ++ [(sa2, out, k5)], _, by simp [rlV], by simp [hql], ?_, rfl⟩⟩
    · subst hLE
      have := List.perm_middle (a := (sa2, listO out k5)) (l₁ := (it, o2) :: (D, listO (rlV qs) k2) :: rlL qs) (l₂ := (L2 + 1, cellO (some (.int ((0 : Int) + i) tv2))) :: (rr, rangeO 0 ((nR ks Uo : Nat) : Int) 1 t6 t8 t7) :: LD)
      simpa [rlL] using this
    · intro j p hp
      by_cases e : j < qs.length
      · rw [List.getElem?_append_left e] at hp
        exact hqs j p hp
      · rw [List.getElem?_append_right (by omega)] at hp
        have e2 : j - qs.length = 0 := by
          by_cases e3 : j - qs.length = 0
          · exact e3
          · rw [List.getElem?_eq_none (by simp; omega)] at hp; cases hp
        rw [e2] at hp
        have e3 : p = (sa2, out, k5) := by simpa using hp.symm
        have e4 : j = i := by omega
        rw [e3, e4]
        refine ⟨ss', h1, h3, h2.nodup_iff.mpr (nodup_filter _ (nodup_filter _ hn)), fun y => ?_⟩
        rw [h2.mem_iff, List.mem_filter, List.mem_filter, decide_eq_true_eq]
        exact ⟨fun ⟨⟨a, b⟩, c⟩ => ⟨a, b, c⟩, fun ⟨a, b, c⟩ => ⟨⟨a, b⟩, c⟩⟩
  · intro ys l k2 hk
    obtain ⟨qs, cc, rfl, hql, hqs, rfl⟩ := (hKK _ _ _).mp hk
    refine ⟨(D, listO (rlV qs) k2) :: (rlL qs ++ LD), .cons₂ _ (.append (.refl _) (.cons _ (.cons _ (.refl _)))), ?_⟩
    refine F6.CompEnd.nul ?_
    have hup : ∀ {a : Addr} {o : Obj}, Has C LD a o → Has C ((D, listO (rlV qs) k2) :: (rlL qs ++ LD)) a o := fun q => by
      rcases q with q | q
      · exact .inl (by simp [q])
      · exact .inr q
    obtain ⟨zs, r1, r2, r3⟩ := rds_lsts (C := C) (led := (D, listO (rlV qs) k2) :: (rlL qs ++ LD)) (ls := ls) (qs := qs) (P := fun j ss => sortedS ss = true ∧ ss.Nodup ∧ ∀ y, y ∈ ss ↔ y ∈ ks ∧ freeB ks Uo y = true ∧ (Mf ks Uo y).length = j) 0 (by rw [hT.len, hql])
      (fun j a b ⟨a1, a2, a3⟩ ⟨b1, b2, b3⟩ => sorted_uniq a1 b1 ((List.perm_ext_iff_of_nodup a2 b2).mpr fun y => (a3 y).trans (b3 y).symm)) (fun j p hp => by rw [Nat.zero_add]; exact hT.rnd j p hp) (fun j p hp => by rw [Nat.zero_add]; exact hqs j p hp)
      (fun p hp => hup (hLS p hp)) (fun p hp => .inl (List.mem_cons_of_mem _ (List.mem_append_left _ (List.mem_map.mpr ⟨p, hp, rfl⟩))))
    have hsh : SeqAt.shaped (.list (lstsD zs)) = true := shaped_lsts fun ss hs y hy => by
      obtain ⟨j, _, _, q⟩ := r3 ss hs
      exact txs_ok (hx y ((q y).mp hy).1)
    refine r_neD (k := 5) (by walk_at "room") (RD.list (hup hRO) r1) (RD.list Has.head r2) hsh hsh ?_
    rw [eqv_lsts]
    with_reducible refine r_tBool ?_
    refine iteB (fun hb => absurd hb (by decide)) (fun hb => ?_)
    with_reducible refine r_nil ?_
    with_reducible refine leafN (by assumption) ?_
    refine r_drop (led' := LD) ?_ (.cons _ (List.sublist_append_right _ _))
    refine r_lawOut e3 eE ?_
    exact h _ (by walk_at "look")
end
end NF
namespace NG
open F1 F2 F3 F4 F5 FM FL NB NC ND NE NF GB
section
variable {C : Cx} {m : Loc} {led : Led} {outer : List Env}
theorem lawX {ta md mx fa da sa ro rg : Addr} {tv fv dv sv : List Value} {tn fn dn sn c : Nat} {omd omx og : Obj} {ms : ML} {ks : List Str} {kvs gkvs : List (Str × Value)} {ls : List (Addr × List Value × Nat)} {Q : Flow → Loc → Led → Prop} (R : Room C 14) (hn : ks.Nodup) (hx : ∀ k ∈ ks, TxS k) (hz : ks.length ≤ 10)
    (hms : MlOk ks ms ks) (hox : omx.IsDictOf (strKind PG C.W.w) (mlK ms)) (hF : StrsAre fv (ks.filter (freeB ks Uo))) (hod : omd.IsDictOf (strKind PG C.W.w) kvs) (hM : F6.ModesOk 10 kvs) (hks : kvs.map (·.1) = ks)
    (hog : og.IsDictOf (strKind PG C.W.w) gkvs) (hgr : ∀ k ∈ ks, freeB ks Uo k = true → ∃ t, valueAt gkvs k = some (.int (RTf ks Uo (mdOf kvs) k) t)) (e2 : m "rights" = some (.ref rg))
    (h : ∀ m' l', Q (.ret (.bool true)) m' l') :
    T C m ((ro, listO (rlV ls) c) :: (rg, og) :: (rlL ls ++ lawL C.L fa da sa mx fv dv sv fn dn sn omx ms ta tv tn md omd led)) (execs (lawB C.W.w.params 14) (lawE C.W.w.params C.L)) Q := by
  refine' r_law (j := 14) ?ho fun e3 eE => ?_
  (case ho => k_is)
  simp only [List.drop_succ_cons, List.drop_zero]
  have O := ordU hn hx
  have hMd1 : Has C ((ro, listO (rlV ls) c) :: (rg, og) :: (rlL ls ++ lawL C.L fa da sa mx fv dv sv fn dn sn omx ms ta tv tn md omd led)) (C.L + 1) (cellO (some (.ref md))) := Has.tail (Has.tail (Has.apR (Has.tail (Has.tail (Has.tail (Has.tail hB_mds))))))
  have hMx1 : Has C ((ro, listO (rlV ls) c) :: (rg, og) :: (rlL ls ++ lawL C.L fa da sa mx fv dv sv fn dn sn omx ms ta tv tn md omd led)) (C.L + 1 + 1 + 1) (cellO (some (.ref mx))) := Has.tail (Has.tail (Has.apR (Has.tail (Has.tail (Has.tail (Has.tail hB_mat))))))
  have hFa1 : Has C ((ro, listO (rlV ls) c) :: (rg, og) :: (rlL ls ++ lawL C.L fa da sa mx fv dv sv fn dn sn omx ms ta tv tn md omd led)) (C.L + 1 + 1 + 1 + 1 + 1 + 1) (cellO (some (.ref fa))) := Has.tail (Has.tail (Has.apR (Has.tail (Has.tail (Has.tail (Has.tail hB_fre))))))
  have hMX : Has C ((ro, listO (rlV ls) c) :: (rg, og) :: (rlL ls ++ lawL C.L fa da sa mx fv dv sv fn dn sn omx ms ta tv tn md omd led)) mx omx := Has.tail (Has.tail (Has.apR (Has.tail (Has.tail (Has.tail Has.head)))))
  have hMD : Has C ((ro, listO (rlV ls) c) :: (rg, og) :: (rlL ls ++ lawL C.L fa da sa mx fv dv sv fn dn sn omx ms ta tv tn md omd led)) md omd := Has.tail (Has.tail (Has.apR (Has.tail (Has.tail (Has.tail (Has.tail hB_md))))))
  have hFA : Has C ((ro, listO (rlV ls) c) :: (rg, og) :: (rlL ls ++ lawL C.L fa da sa mx fv dv sv fn dn sn omx ms ta tv tn md omd led)) fa (listO fv fn) := Has.tail (Has.tail (Has.apR (Has.head)))
  have hRG : Has C ((ro, listO (rlV ls) c) :: (rg, og) :: (rlL ls ++ lawL C.L fa da sa mx fv dv sv fn dn sn omx ms ta tv tn md omd led)) rg og := Has.tail Has.head
  have hML : ∀ {l : Addr} {vs : List Value} {n : Nat}, (l, listO vs n) ∈ mlL ms → Has C ((ro, listO (rlV ls) c) :: (rg, og) :: (rlL ls ++ lawL C.L fa da sa mx fv dv sv fn dn sn omx ms ta tv tn md omd led)) l (listO vs n) := fun q => .inl (by
    refine List.mem_cons_of_mem _ (List.mem_cons_of_mem _ (List.mem_append_right _ (List.mem_cons_of_mem _ (List.mem_cons_of_mem _ (List.mem_cons_of_mem _ (List.mem_cons_of_mem _ (List.mem_append_left _ q))))))))
  generalize hLD : (ro, listO (rlV ls) c) :: (rg, og) :: (rlL ls ++ lawL C.L fa da sa mx fv dv sv fn dn sn omx ms ta tv tn md omd led) = LD at *
  have hfl := strsAre_len hF
  with_reducible refine r_consQ fun QQ hQQ => ?_
  refine r_ForList R.h ?_
  (refine' r_cell rfl ?hl ?hc ?hv ?_; (case hl => first | exact Or.inl rfl | exact Or.inr rfl); (case hc => exact rfl); (case hv => walk_at "has"))
  refine ⟨fa, fv, fn, fun i m' l' => l' = LD ∧ m' "rights" = some (.ref rg), rfl, hFA, ?_, ⟨rfl, e2⟩, ?_, ?_⟩
  · rintro i m' l' ⟨rfl, _⟩; exact hFA
  · rintro E3 I o3 i v m3 l3 hvi ⟨rfl, er⟩
    obtain ⟨z, tz, hz2, rfl⟩ := strsAre_get' hF hvi
    obtain ⟨hzK, hzf⟩ := List.mem_filter.mp (List.mem_of_getElem? hz2)
    obtain ⟨lz, vz, cz, hvl, hlm, hvz⟩ := ml_at hms hzK
    obtain ⟨tm, hvm⟩ := mdOf_spec hM (hks ▸ hzK)
    obtain ⟨tr, hvr⟩ := hgr z hzK hzf
    have hLz := hML hlm
    have hMz : (Mf ks Uo z).length ≤ 10 := Nat.le_trans (M_len z) hz
    have hvzl := strsAre_len hvz
    refine r_store rfl rfl rfl ?_
    with_reducible refine r_consQ fun QQ hQQ => ?_
    refine r_AssignComp ?_
    refine' r_LCl R.h ?hcl ?hkd ?hnm ?_
    (case hcl => exact rfl)
    (case hkd => exact rfl)
    (case hnm => decide)
    with_reducible refine r_BinOp ?_
    with_reducible refine r_List ?_
    refine r_argCons ?_
    refine r_local rfl rfl rfl rfl ?_
    with_reducible refine r_argNil ?_
    refine r_newList (Nat.le_of_ble_eq_true rfl) ?_; intro la
    refine r_CallKw ?_
    (refine' r_builtin rfl rfl rfl rfl ?e ?hv ?hn ?_; (case e => k_is); (case hv => boot_by_name); (case hn => decide))
    refine r_cwKw ?_
    refine r_argCons ?_
    with_reducible refine r_Sub ?_
    (refine' r_cell rfl ?hl ?hc ?hv ?_; (case hl => first | exact Or.inl rfl | exact Or.inr rfl); (case hc => exact rfl); (case hv => walk_at "has"))
    refine r_local rfl rfl rfl rfl ?_
    refine r_dItem (by walk_at "has") hox (strKind_is _ _ _ _) hvl ?_
    with_reducible refine r_argNil ?_
    refine r_kwCons ?_
    (refine' r_builtin rfl rfl rfl rfl ?e ?hv ?hn ?_; (case e => k_is); (case hv => boot_by_name); (case hn => decide))
    refine r_kwCons ?_
    with_reducible refine r_bool ?_
    refine r_kwNil ?_
    show T _ _ _ (call (.builtin "sorted") [.ref lz] (kwLen true)) _
    refine r_sortedK (by walk_at "has") hvz (fun y hy => by have := txs_len (hx y (Mf_sub hy)); omega) (by omega) fun srt out ss' k4 hout hperm hord => ?_
    have hss : ss' = descM ks Uo z := desc_uniq O hzK hzf hperm hord
    subst hss
    have hlo := strsAre_len hout
    have hlp := hperm.length_eq
    refine r_addL (vs := [.str z tz]) (n := 0) (Has.tail Has.head) Has.head (by rw [sizeLine_eq]; simp; omega) fun lb => ?_
    have hcat : StrsAre ([.str z tz] ++ out) (z :: descM ks Uo z) := .cons _ _ hout
    have hcl := strsAre_len hcat
    refine ⟨lb, [.str z tz] ++ out, 0, fun i ys => IntsAre ys (((z :: descM ks Uo z).take i).map (mdOf kvs)), rfl, Has.head, by simp; omega, by simpa using IntsAre.nil, fun i ys q => ?_, ?_, ?_⟩
    · rw [q.length, List.length_map, List.length_take]; omega
    · intro L6 β6 E6 j6 v6 ys6 m6 a6 b6 up6 hv6 hK6
      obtain ⟨x, tx6, hx6, rfl⟩ := strsAre_get' hcat hv6
      have hxK : x ∈ ks := by
        rcases List.mem_cons.mp (List.mem_of_getElem? hx6) with rfl | hq
        · exact hzK
        · exact Mf_sub (hperm.mem_iff.mp hq)
      obtain ⟨t6, hv6m⟩ := mdOf_spec hM (hks ▸ hxK)
      refine r_store rfl rfl rfl ?_
      refine r_tests0 (F6.ifT ?_)
      with_reducible refine r_Sub ?_
      (refine' r_cell rfl ?hl ?hc ?hv ?_; (case hl => first | exact Or.inl rfl | exact Or.inr rfl); (case hc => exact rfl); (case hv => walk_at "has"))
      refine r_local rfl rfl rfl rfl ?_
      refine r_dItem (by walk_at "has") hod (strKind_is _ _ _ _) hv6m ?_
      refine ⟨.refl _, ?_⟩
      show IntsAre _ (((z :: descM ks Uo z).take (j6 + 1)).map _)
      rw [List.take_add_one, hx6, List.map_append]
      exact F6.intsAre_snoc hK6
    intro D6 L6 ys6 k6 hK6
    rw [hcl, List.take_length] at hK6
    intro o6
    refine r_asName ?_
    refine r_store rfl rfl rfl ?_
    refine ⟨_, .refl _, ?_⟩
    with_reducible refine leafN (by assumption) ?_
    with_reducible refine r_consQ fun QQ hQQ => ?_
    refine r_If ?_
    with_reducible refine r_isCmp ?_
    refine r_Call ?_
    (refine' r_global rfl rfl rfl ?e ?_; (case e => k_is))
    refine' r_cwK ?hf ?_; (case hf => k_is)
    refine r_argCons ?_
    with_reducible refine r_BinOp ?_
    with_reducible refine r_BinOp ?_
    with_reducible refine r_Sub ?_
    (refine' r_cell rfl ?hl ?hc ?hv ?_; (case hl => first | exact Or.inl rfl | exact Or.inr rfl); (case hc => exact rfl); (case hv => walk_at "has"))
    refine r_local rfl rfl rfl rfl ?_
    refine r_dItem (by walk_at "has") hod (strKind_is _ _ _ _) hvm ?_
    refine r_Call ?_
    (refine' r_global rfl rfl rfl ?e ?_; (case e => k_is))
    refine' r_cwK ?hf ?_; (case hf => k_is)
    refine r_argCons ?_
    with_reducible refine r_Sub ?_
    (refine' r_cell rfl ?hl ?hc ?hv ?_; (case hl => first | exact Or.inl rfl | exact Or.inr rfl); (case hc => exact rfl); (case hv => walk_at "has"))
    refine r_local rfl rfl rfl rfl ?_
    refine r_dItem (by walk_at "has") hod (strKind_is _ _ _ _) hvm ?_
    with_reducible refine r_argNil ?_
    refine imode_spec (by walk_at "room") fun t7 => ?_
    with_reducible refine r_sub fun zt => ?_
    with_reducible refine r_Sub ?_
    (refine' r_local rfl rfl rfl ?hv ?_; (case hv => walk_at "look"))
    refine r_local rfl rfl rfl rfl ?_
    refine r_dItem (by walk_at "has") hog (strKind_is _ _ _ _) hvr ?_
    with_reducible refine r_add fun zt => ?_
    with_reducible refine r_argNil ?_
    refine filemode_spec (by walk_at "room") fun t8 => ?_
    refine r_Call ?_
    (refine' r_global rfl rfl rfl ?e ?_; (case e => k_is))
    refine' r_cwK ?hf ?_; (case hf => k_is)
    refine r_argCons ?_
    with_reducible refine r_Sub ?_
    (refine' r_cell rfl ?hl ?hc ?hv ?_; (case hl => first | exact Or.inl rfl | exact Or.inr rfl); (case hc => exact rfl); (case hv => walk_at "has"))
    refine r_local rfl rfl rfl rfl ?_
    refine r_dItem (by walk_at "has") hod (strKind_is _ _ _ _) hvm ?_
    refine r_argCons ?_
    refine r_local rfl rfl rfl rfl ?_
    with_reducible refine r_argNil ?_
    refine listing_spec (by walk_at "room") Has.head hK6 fun t9 => ?_
    with_reducible refine r_neS ?_
    with_reducible refine r_tBool ?_
    have hlaw : fmF (mdOf kvs z - Builtin.bitAnd (mdOf kvs z) 4095 + RTf ks Uo (mdOf kvs) z) = lsF (mdOf kvs z) ((z :: descM ks Uo z).map (mdOf kvs)) 3 := listing_law _ _
    rw [hlaw]
    refine iteB (fun hb => absurd hb (by simp)) (fun hb => ?_)
    with_reducible refine r_nil ?_
    with_reducible refine leafN (by assumption) ?_
    with_reducible refine r_nil ?_
    exact TurnF.next _ (by walk_at "sub") ⟨rfl, by walk_at "look"⟩
  · rintro E3 m3 l3 ⟨rfl, er⟩
    with_reducible refine r_nil ?_
    with_reducible refine leafN (by assumption) ?_
    with_reducible refine r_consQ fun QQ hQQ => ?_
    with_reducible refine r_Ret ?_
    with_reducible refine r_bool ?_
    with_reducible refine leafR (by assumption) ?_
    exact h _ _
end
end NG
namespace NH
open F1 F2 F3 F4 F5 NB NC ND NE NF NG GB
section
variable {C : Cx} {m : Loc} {led : Led} {outer : List Env}
theorem law_body {sl : Addr} {vs : List Value} {ns : List Int} {k : Nat} {Q : Flow → Loc → Led → Prop} (F : Frm C (lawE C.W.w.params C.L) outer) (R : Room C 14) (hl : Has C led sl (listO vs k)) (hi : IntsAre vs ns) (h63 : vs.length ≤ 63) (hs : m "script" = some (.ref sl))
    (h : ∀ m' l', Q (.ret (.bool true)) m' l') : T C m (celL C.L none none none none none none led) (execs (lawB C.W.w.params 0) (lawE C.W.w.params C.L)) Q := by
  refine lawA (Room.of R (by decide) rfl) hl hi h63 hs fun m1 ta tv tn md omd kvs hsys hod hM hT => ?_
  have hx := modes_txs hM
  have hn := isDict_nodup hod
  have hz : (kvs.map (·.1)).length ≤ 10 := by rw [List.length_map]; exact hM.1
  refine lawM (Room.of R (by decide) rfl) hn hx hT hz fun mx omx ms hmx hox hms => ?_
  refine lawS (Room.of R (by decide) rfl) hn hx hT hz hms hox fun sa sv sn da dv dn fa fv fn hD hF => ?_
  refine lawR F R hn hx hz hms hox hmx hD hod hM rfl fun m2 ro rg og gkvs ls c e1 e2 hog hgr hto => ?_
  refine lawZ R hn hx hz hms hox hF hto e1 e2 fun m3 e3 => ?_
  exact lawX R hn hx hz hms hox hF hod hM rfl hog hgr e3 h
end
end NH
namespace NI
open F1 F2 F3 F4 F5 NB NC ND NE NF NG NH GB
theorem enter_law {W : Wd} {s : Shared} {sl : Addr} {vs : List Value} {ns : List Int} {k : Nat} {Q : Value → Shared → Prop} {E : Value → Shared → Prop} (hs : s.heap = W.h) (hos : s.os = W.os) (hg : s.gens = #[])
    (hl : W.h.get? sl = some (listO vs k)) (hi : IntsAre vs ns) (h63 : vs.length ≤ 63)
    (h : ∀ s', (∀ b o, s.heap.get? b = some o → s'.heap.get? b = some o) → s'.gens = #[] → s'.os = s.os → Q (.bool true) s') : wpAny (Mo W) callerA (call (.ref 332) [.ref sl]) Q E s := by
  have key : ∀ {name qual : Str} {params : Arguments} {body : List Stmt} {scope : Scope} {dV kV doc pm cdv ct oc : Value} {an od : Option Addr} {osl : Array (Option Value)} {binds : List (Str × Value)}
    (ho : (hd.heap_1 W.w.params).lookup 332 = some ⟨oc, od, .func (fnOf name qual params body scope dV kV doc pm an cdv ct), osl⟩) (hcd : codeIn (hd.heap_1 W.w.params) cdv qual = true)
    (hbind : bindArgs (fnOf name qual params body scope dV kV doc pm an cdv ct) ⟨[.ref sl], []⟩ = pure binds) (hloc : (binds.all fun x => decide (scope.names.lookup x.1 = some .local)) = true)
    (hco : scope.isCoroutine = false) (hgen : scope.isGenerator = false) (hk : scope.kind = .function) (hbs : bindM binds (fun _ => none) "script" = some (.ref sl))
    (hcl : ∀ L l, cellLed (L + 1) scope.names l = celL L none none none none none none l), wpAny (Mo W) callerA (call (.ref 332) [.ref sl]) Q E s := by
    intro name qual params body scope dV kV doc pm cdv ct oc an od osl binds ho hcd hbind hloc hco hgen hk hbs hcl
    have hX : (hd.heap_1 W.w.params).In s.heap := hs ▸ W.X
    refine wpAny_call (codeAny_call_function (fd := fnOf name qual params body scope dV kV doc pm an cdv ct) (body := body) (by decide) (hX _ _ ho) rfl hco hgen rfl (codeRec_of hX hcd) ?_)
    rw [hbind]
    refine wpAny_pure ?_
    simp only [newFunctionEnv, Option.isSome_none, Bool.false_eq_true, if_false]
    refine wpAny_bind (wpAny_alloc ?_)
    refine wpAny_bind (wpAny_layCells _ (fun name kind cells => by cases hkc : kind == NameKind.cell <;> simp [hkc]) _ _ _ _ ?_)
    have hnone : s.heap.get? s.heap.objs.size = none := by
      cases q : s.heap.get? s.heap.objs.size with
      | none => rfl
      | some o => exact absurd (Heap.lt_size q) (Nat.lt_irrefl _)
    have P1 : Pt W (fun a => s.heap.get? a) s.heap.objs.size (fun _ => none) [] { s with heap := s.heap.push { cls := .type "frame", data := .dict #[] } } := by
      refine ⟨fun a o e => by rw [hs]; exact e, ⟨fun a o e => Heap.get?_push_of_some _ (show s.heap.get? a = some o by rw [hs]; exact e), fun a o e => ⟨o.slots, Heap.get?_push_of_some _ e⟩⟩, hnone, Heap.Ns.new s.heap (.type "frame"), by simp, by simp, hg, hos⟩
    have P2 := P1.cells scope.names
    have hsz : ({ s with heap := s.heap.push { cls := .type "frame", data := .dict #[] } } : Shared).heap.objs.size = s.heap.objs.size + 1 := Heap.size_push ..
    rw [hsz] at P2 ⊢
    refine wpAny_bind (bindAll (env := envOfC qual scope s.heap.objs.size 332 cdv) _ (fun _ _ _ => rfl) hk binds (fun _ => none) _ _ P2 (fun x hx => locs hloc x hx) fun s' P' _ => ?_)
    refine wpAny_pure ⟨P'.nolimit, codeAny_func ?_⟩
    have hF : lawF W.w.params = fnOf name qual params body scope dV kV doc pm an cdv ct := by unfold lawF; rw [ho]
    have hB : lawB W.w.params 0 = body := by unfold lawB; rw [hF]; rfl
    have hE : lawE W.w.params s.heap.objs.size = envOfC qual scope s.heap.objs.size 332 cdv := by unfold lawE; rw [hF]
    have hFr : Frm ⟨W, callerA.deeper (envOfC qual scope s.heap.objs.size 332 cdv), fun e s'' => wpAny (Mo W) (callerA.deeper (envOfC qual scope s.heap.objs.size 332 cdv)) (leaving (envOfC qual scope s.heap.objs.size 332 cdv) e) (fun _ s3 => E e s3) (fun e' s3 => E e' s3) s'', fun a => s.heap.get? a, s.heap.objs.size⟩
        (lawE W.w.params s.heap.objs.size) [] := by
      rw [hE]
      exact ⟨Around.frames_deeper rfl, rfl, by rw [show (envOfC qual scope s.heap.objs.size 332 cdv).scope.kind = .function from hk]; decide, trivial, by rw [hs]; exact Nat.le_refl _⟩
    have hb := law_body (C := ⟨W, callerA.deeper (envOfC qual scope s.heap.objs.size 332 cdv), fun e s'' => wpAny (Mo W) (callerA.deeper (envOfC qual scope s.heap.objs.size 332 cdv)) (leaving (envOfC qual scope s.heap.objs.size 332 cdv) e) (fun _ s3 => E e s3) (fun e' s3 => E e' s3) s'', fun a => s.heap.get? a, s.heap.objs.size⟩)
      (m := bindM binds fun _ => none) (led := []) (Q := fun fl _ _ => fl = .ret (.bool true)) hFr ⟨by show 1 + claimMargin + 1 + 2 * 14 < 1000; decide, by show 4 + 3 + 100 * 14 < 9900; decide, rfl⟩ (.inr hl) hi h63 hbs (fun _ _ => rfl)
    rw [hB] at hb
    rw [show lawE W.w.params s.heap.objs.size = envOfC qual scope s.heap.objs.size 332 cdv from hE] at hb
    rw [hcl] at P'
    refine hb.run P' fun fl s'' m'' led'' P'' hq => ?_
    subst hq
    exact h s'' (fun b o e => P''.all b o (by rw [← hs]; exact e)) P''.gens (P''.os.trans hos.symm)
  refine' key (binds := [("script", .ref sl)]) ?ho ?hcd ?hbind ?hloc ?hco ?hgen ?hk ?hbs ?hcl
  (case ho => k_is)
  (case hcd => k_is)
  (case hbind => exact rfl)
  (case hloc => exact rfl)
  (case hco => exact rfl)
  (case hgen => exact rfl)
  (case hk => exact rfl)
  (case hbs => walk_at "look")
  (case hcl => exact fun _ _ => rfl)
end NI
end Mine
open PySem PySem.W PyProof.Rows PySem.Calls
theorem PySem.Challenge.cw_of0088_01_holds : PySem.Challenge.rw_of0088_01.Holds := by
  refine Mine.hd ?_
  intro w s₀ s₁ mg mb G Y fa o pm cd doc dV kV ho hd1 hcd hD hmg hg args vals as hpre hlay hrd hwl hlo
  have KX := kIn_of Y
  have T := G.T
  wrow_args hpre hlay hrd hwl hlo
  rename_i ns _ _ _ _ _ _ _ sl vs as2 hL ra w1 r0 hI hr2 hc _
  have hfa : fa = 332 := by
    have h1 : mg "law" = some (Value.ref 332) := mg_of KX T.g (by kernel_rfl)
    have h2 : Mine.lawD.name = Str.ofString "law" := by kernel_rfl
    rw [h2, h1] at hmg
    cases hmg; rfl
  subst hfa
  have hl : s₁.heap.get? sl = some (Mine.listO vs 0) := by
    cases w1 with
    | list h1 h2 =>
      obtain ⟨ob, g1, g2, n, g3⟩ := hL
      rw [h1] at g1
      cases g1
      simp only [Data.seq.injEq] at g3
      obtain ⟨g3, rfl⟩ := g3
      rw [h1, g3]
  have hlen : vs.length ≤ 63 := by
    rw [hI.length]; omega
  refine Mine.NI.enter_law (W := ⟨w, s₁.heap, s₁.os, ExcName.means s₀.heap, mg, mb, KX, T⟩) rfl rfl hg hl hI hlen fun s' hk hg' ho' => ?_
  refine ⟨.inl ⟨.bool true, .bool true, [], rfl, ?_, ?_, ?_, ?_⟩, .of_keep hk, ho', .of_eq hg'⟩
  · intro cls
    first | rfl | (unfold ClaimW.raises; wrow_none_raised)
  · first | exact ReadsW.bool _ | exact .bool _ | constructor
  · first | wrow_post | rfl
  · exact fun _ => ⟨List.nodup_nil, fun a ha => by cases ha⟩
