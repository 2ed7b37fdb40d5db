import PyProof.Rows.All
import Wide.All
import OpenK.AllK
import Wide.FinOn
import PySem.Challenge.RW_we0032_01
set_option Elab.async false
set_option maxRecDepth 100000
set_option maxHeartbeats 80000000
section
open PySem PySem.W PyProof.Rows
namespace Mine
section
local macro_rules | `(tactic| o_head $_) => `(tactic| contradiction)
theorem kmake (h : False) : PySem.Challenge.rw_we0032_01.row.Holds := by
  k_head
end
end Mine
end
section
open PySem PySem.W PyProof.Rows
namespace Mine
/-! the head's run, over a tree of objects instead of a row of them -/
noncomputable def growT : BT → Nat → List Obj → Option (BT × Nat)
  | T, n, [] => some (T, n)
  | T, n, o :: os => match ((T.ins n o).get n).isSome with
    | true => growT (T.ins n o) (n + 1) os
    | false => none
theorem growT_ok {life : Life} : ∀ {os : List Obj} {T T' : BT} {n n' : Nat}, growT T n os = some (T', n') → absHeap T' n' life = ⟨(absHeap T n life).objs ++ os.toArray, life⟩
  | [], T, T', n, n', h => by
    cases h
    show absHeap T n life = ⟨(absHeap T n life).objs ++ #[], life⟩
    rw [Array.append_empty]
    rfl
  | o :: os, T, T', n, n', h => by
    unfold growT at h
    cases g : ((T.ins n o).get n).isSome with
    | false => rw [g] at h; cases h
    | true =>
      rw [g] at h
      rw [growT_ok (life := life) h, absHeap_ins g]
      show Heap.mk (((absHeap T n life).objs.push o) ++ os.toArray) life = _
      congr 1
      apply Array.ext'
      simp
noncomputable def toT (s : Shared) : Option SharedT := match growT .nil 0 s.heap.objs.toList with
  | some (T, n) => some ⟨T, n, s.heap.life, s.gens, s.drawn, s.toks, s.os⟩
  | none => none
theorem toT_ok {s : Shared} {S : SharedT} (h : toT s = some S) : S.abs = s := by
  obtain ⟨⟨objs, life⟩, gens, drawn, toks, os⟩ := s
  unfold toT at h
  dsimp only at h
  cases g : growT .nil 0 objs.toList with
  | none => rw [g] at h; cases h
  | some q =>
    obtain ⟨T, n⟩ := q
    rw [g] at h
    cases h
    show Shared.mk (absHeap T n life) gens drawn toks os = _
    rw [growT_ok (life := life) g]
    have e : (absHeap .nil 0 life).objs ++ objs.toList.toArray = objs := by
      show #[] ++ objs.toList.toArray = objs
      simp
    rw [e]
noncomputable def runBy (thr ok : Thread → Bool) (st : SharedT → Thread → Option (SharedT × Thread)) : Nat → SharedT → Thread → Option SharedT
  | 0, _, _ => none
  | n + 1, s, t => match thr t with
    | true => some s
    | false => match ok t with
      | false => none
      | true => match st s t with
        | some (s', t') => runBy thr ok st n s' t'
        | none => none
section
variable {tb : String → Option Builtin} {p : Program} {w : World}
theorem runBy_ok {n₀ : Nat} {ann : Option Value} : ∀ {n : Nat} {s s' : SharedT} {t : Thread}, runBy through (stepOk n₀ ann) (stepT (denote tb) p w) n s t = some s' → topRun tb p w n₀ ann n s.abs t = some s'.abs
  | 0, _, _, _, h => by cases h
  | n + 1, s, s', t, h => by
    unfold runBy at h
    unfold topRun
    cases he : through t with
    | true => rw [he] at h; cases h; rfl
    | false =>
      rw [he] at h
      cases hk : stepOk n₀ ann t with
      | false => rw [hk] at h; cases h
      | true =>
        rw [hk] at h
        cases hs : stepT (denote tb) p w s t with
        | none => rw [hs] at h; cases h
        | some r => obtain ⟨s₂, t₂⟩ := r; rw [hs] at h; simp only; rw [stepT_spec hs]; exact runBy_ok h
noncomputable def endsT (tb : String → Option Builtin) (p : Program) (w : World) (N : Nat) : Option Shared :=
  (fencedOpening tb p w N).bind fun s₀ => match s₀.heap.isNs mainGlobals && s₀.gens.size == 0 with
    | true => match toT s₀ with
      | some S => (runBy through (stepOk s₀.heap.objs.size (s₀.heap.nsMap mainGlobals "__annotations__")) (stepT (denote tb) p w) N S (topStub p)).bind fun S₁ =>
        match staticsOk (importedModules p.main.body) s₀.heap S₁.abs.heap && namesBound p S₁.abs.heap && gensDone S₁.abs && laidKept s₀.heap S₁.abs.heap with
        | true => some S₁.abs
        | false => none
      | none => none
    | false => none
theorem endsT_ok {N : Nat} {s : Shared} (h : endsT tb p w N = some s) : openEnds tb p w N = some s := by
  unfold endsT at h
  unfold openEnds
  cases h0 : fencedOpening tb p w N with
  | none => rw [h0] at h; cases h
  | some s₀ =>
    rw [h0] at h
    rw [Option.bind_some] at h ⊢
    unfold topFrom
    cases h1 : (s₀.heap.isNs mainGlobals && s₀.gens.size == 0) with
    | false => rw [h1] at h; cases h
    | true =>
      rw [h1] at h
      dsimp only at h ⊢
      cases h2 : toT s₀ with
      | none => rw [h2] at h; cases h
      | some S =>
        rw [h2] at h
        dsimp only at h
        cases h3 : runBy through (stepOk s₀.heap.objs.size (s₀.heap.nsMap mainGlobals "__annotations__")) (stepT (denote tb) p w) N S (topStub p) with
        | none => rw [h3] at h; cases h
        | some S₁ =>
          rw [h3] at h
          have h4 := runBy_ok h3
          rw [toT_ok h2] at h4
          rw [h4]
          exact h
theorem endsT_map {α : Type} {N : Nat} {f : Shared → α} {v : α} (h : (endsT tb p w N).map f = some v) : (openEnds tb p w N).map f = some v := by
  cases e : endsT tb p w N with
  | none => rw [e] at h; cases h
  | some s => rw [e] at h; rw [endsT_ok e]; exact h
end
end Mine
end
section
open PySem PySem.W PyProof.Rows
namespace Mine
noncomputable abbrev q8 : Program := view PySem.Challenge.pw_we0032_01 [79]
noncomputable abbrev lo8 : List Str := PySem.Challenge.pw_we0032_01.boundNames.filter fun n => n != Str.ofString "law"
noncomputable abbrev as8 : List Addr := [2,3,32,34,35,37,38,39,41,42,44,45,46,48,49,51,52,53,55,56,58,59,60,62,63,65,66,67,69,70,72,73,74,76,77,79,80,81,84,86,87,89,90,91,93,94,96,97,101,102,106,107,115,116,118,119,121,122,123,125,126,128,129,130,132,133,135,136,137,139,140,142,143,144,147,148,149,151,152,154,155,156,158,159,161,162,163,165,166,168,169,170,171,173,174,176,177,178,181,182,183,186,187,188,190,191,193,194,195,197,198,200,201,202,205,206,207,209,210,212,213,214,216,217,219,220,221,223,224,226,227,228,229,230,231,232,235,237,238,240,241,242,245,246,247,249,250,252,253,254,256,257,259,260,261,263,264,266,267,268,270,271,273,274,275,277,278,280,281,282,284,285,287,288,289,291,292,294,295,296,298,299,301,302,303,305,306,308,309,310,312,313,315,316]
theorem as8_ok : ∀ P, as8 = (kmake.heap_1 P).map (·.1) := fun _ => by kernel_rfl
noncomputable abbrev H8 := kHook kmake.heap_1 as8 as8_ok
noncomputable abbrev xt8 (s : Shared) : Bool := xlAt q8 [] s && recOk (RowW.records PySem.Challenge.rw_we0032_01.row.toRowW) s
theorem hl_false : ∀ w : World, (openEnds treeTable PySem.Challenge.pw_we0032_01 (w.withFollow "special-get-raises" false) 6094).map (fun s => (openSeen q8 lo8 (importedModules PySem.Challenge.pw_we0032_01.main.body) xt8 true s, Hook.obs H8 s)) = some (openGood q8 lo8, Hook.val H8 (w.withFollow "special-get-raises" false)) := fun w => by
  refine endsT_map ?_
  delta endsT fencedOpening
  rw [PySem.W.Fast.te10274390034422433532, PySem.W.Fast.te14364793385576792824, PySem.W.Fast.te10156331382660048174, PySem.W.Fast.te6613529449190102663, PySem.W.Fast.te11892475500146522536, PySem.W.Fast.te4187177175401517315]
  kernel_rfl
theorem hl_true : ∀ w : World, (openEnds treeTable PySem.Challenge.pw_we0032_01 (w.withFollow "special-get-raises" true) 6094).map (fun s => (openSeen q8 lo8 (importedModules PySem.Challenge.pw_we0032_01.main.body) xt8 true s, Hook.obs H8 s)) = some (openGood q8 lo8, Hook.val H8 (w.withFollow "special-get-raises" true)) := fun w => by
  refine endsT_map ?_
  delta endsT fencedOpening
  rw [PySem.W.Fast.te10274390034422433532, PySem.W.Fast.te14364793385576792824, PySem.W.Fast.te10156331382660048174, PySem.W.Fast.te6613529449190102663, PySem.W.Fast.te11892475500146522536, PySem.W.Fast.te4187177175401517315]
  kernel_rfl
theorem hlT : LeftO PySem.Challenge.pw_we0032_01 q8 lo8 xt8 (Hook.obs H8) (Hook.val H8) 6094 := byRow2 "special-get-raises" hl_false hl_true
end Mine
end
section
open PySem PySem.W PyProof.Rows
namespace Mine

inductive Op where
  | add | sub | mul | and | or | xor

noncomputable def Op.code : Op → Nat
  | .add => 43 | .sub => 45 | .mul => 42 | .and => 38 | .or => 124 | .xor => 94
noncomputable def Op.str : Op → Str
  | .add => Str.ofString "+"
  | .sub => Str.ofString "-"
  | .mul => Str.ofString "*"
  | .and => Str.ofString "&"
  | .or => Str.ofString "|"
  | .xor => Str.ofString "^"
noncomputable def Op.deed : Op → Int
  | .add => 36 | .sub => 37 | .mul => 38 | .and => 41 | .or => 42 | .xor => 43
noncomputable def Op.app : Op → Int → Int → Int
  | .add, a, b => a + b
  | .sub, a, b => a - b
  | .mul, a, b => a * b
  | .and, a, b => Builtin.bitAnd a b
  | .or, a, b => Builtin.bitOr a b
  | .xor, a, b => Builtin.bitXor a b

inductive Tree where
  | leaf (i : Int)
  | node (o : Op) (l r : Tree)
noncomputable def Tree.size : Tree → Nat
  | .leaf _ => 1
  | .node _ l r => l.size + r.size + 1
noncomputable def Tree.value : Tree → Int
  | .leaf i => i
  | .node o l r => o.app l.value r.value
noncomputable def Tree.leaves : Tree → Nat
  | .leaf _ => 1
  | .node _ l r => l.leaves + r.leaves
noncomputable def Tree.Fine : Tree → Prop
  | .leaf i => 0 ≤ i ∧ i ≤ 9
  | .node _ l r => l.Fine ∧ r.Fine

theorem Tree.size_leaves : ∀ t : Tree, t.size + 1 = 2 * t.leaves
  | .leaf _ => rfl
  | .node _ l r => by have := l.size_leaves; have := r.size_leaves; simp only [Tree.size, Tree.leaves]; omega
theorem Tree.leaves_pos : ∀ t : Tree, 1 ≤ t.leaves
  | .leaf _ => Nat.le_refl _
  | .node _ l r => by have := l.leaves_pos; simp only [Tree.leaves]; omega

/-- an int within a range of signed words -/
noncomputable def InR (k : Nat) (x : Int) : Prop := -(2 ^ k : Int) ≤ x ∧ x < (2 ^ k : Int)
theorem p2_le {m n : Nat} (h : m ≤ n) : (2 ^ m : Int) ≤ 2 ^ n := by exact_mod_cast Nat.pow_le_pow_right (by decide) h
theorem InR.mono {m n : Nat} {x : Int} (h : InR m x) (hn : m ≤ n) : InR n x := by
  have := p2_le hn
  unfold InR at *
  omega
theorem inR_add {k : Nat} {x y : Int} (hx : InR k x) (hy : InR k y) : InR (k + 1) (x + y) := by
  unfold InR at *
  have : (2 ^ (k + 1) : Int) = 2 * 2 ^ k := by rw [Int.pow_succ, Int.mul_comm]
  omega
theorem inR_sub {k : Nat} {x y : Int} (hx : InR k x) (hy : InR k y) : InR (k + 1) (x - y) := by
  unfold InR at *
  have : (2 ^ (k + 1) : Int) = 2 * 2 ^ k := by rw [Int.pow_succ, Int.mul_comm]
  omega
theorem inR_natAbs {k : Nat} {x : Int} : InR k x → x.natAbs ≤ 2 ^ k := by
  unfold InR
  have : ((2 ^ k : Nat) : Int) = (2 ^ k : Int) := by push_cast; rfl
  omega
theorem inR_mul {m n : Nat} {x y : Int} (hx : InR m x) (hy : InR n y) : InR (m + n + 1) (x * y) := by
  have h : (x * y).natAbs ≤ 2 ^ (m + n) := by
    rw [Int.natAbs_mul, Nat.pow_add]
    exact Nat.mul_le_mul (inR_natAbs hx) (inR_natAbs hy)
  have e : (2 ^ (m + n + 1) : Nat) = 2 * 2 ^ (m + n) := by rw [Nat.pow_succ, Nat.mul_comm]
  have e' : ((2 ^ (m + n + 1) : Nat) : Int) = (2 ^ (m + n + 1) : Int) := by push_cast; rfl
  have pos : 0 < 2 ^ (m + n) := Nat.pow_pos (by decide)
  unfold InR
  omega
theorem inR_not {k : Nat} {x : Int} (hx : InR k x) : InR k (Builtin.bitNot x) := by
  unfold InR Builtin.bitNot at *
  omega
theorem inR_and {k : Nat} {x y : Int} (hx : InR k x) (hy : InR k y) : InR k (Builtin.bitAnd x y) := by
  have e : ((2 ^ k : Nat) : Int) = (2 ^ k : Int) := by push_cast; rfl
  by_cases p : 0 ≤ x
  · by_cases q : 0 ≤ y
    · rw [bitAnd_pp p q]
      have := Nat.and_le_left (n := x.toNat) (m := y.toNat)
      unfold InR at *; omega
    · rw [bitAnd_pn p q]
      have := Nat.and_le_left (n := x.toNat) (m := (Builtin.bitNot y).toNat)
      unfold InR at *; omega
  · by_cases q : 0 ≤ y
    · rw [bitAnd_np p q]
      have := Nat.and_le_left (n := y.toNat) (m := (Builtin.bitNot x).toNat)
      unfold InR at *; omega
    · rw [bitAnd_nn p q]
      have hx' := inR_not hx
      have hy' := inR_not hy
      have h1 : (Builtin.bitNot x).toNat < 2 ^ k := by unfold InR at hx'; have : 0 < 2 ^ k := Nat.pow_pos (by decide); omega
      have h2 : (Builtin.bitNot y).toNat < 2 ^ k := by unfold InR at hy'; have : 0 < 2 ^ k := Nat.pow_pos (by decide); omega
      have := Nat.or_lt_two_pow h1 h2
      generalize ((Builtin.bitNot x).toNat ||| (Builtin.bitNot y).toNat) = z at *
      unfold InR Builtin.bitNot
      omega
theorem inR_or {k : Nat} {x y : Int} (hx : InR k x) (hy : InR k y) : InR k (Builtin.bitOr x y) := inR_not (inR_and (inR_not hx) (inR_not hy))
theorem inR_xor {k : Nat} {x y : Int} (hx : InR k x) (hy : InR k y) : InR (k + 1) (Builtin.bitXor x y) := inR_sub (inR_or hx hy) (inR_and hx hy)
theorem inR_app {a b : Nat} (o : Op) {x y : Int} (ha : 1 ≤ a) (hb : 1 ≤ b) (hx : InR (5 * a - 1) x) (hy : InR (5 * b - 1) y) : InR (5 * (a + b) - 1) (o.app x y) := by
  have hx' : InR (5 * (a + b) - 2) x := hx.mono (by omega)
  have hy' : InR (5 * (a + b) - 2) y := hy.mono (by omega)
  have e : 5 * (a + b) - 2 + 1 = 5 * (a + b) - 1 := by omega
  cases o with
  | add => exact e ▸ inR_add hx' hy'
  | sub => exact e ▸ inR_sub hx' hy'
  | mul => exact (inR_mul hx hy).mono (by omega)
  | and => exact (inR_and hx' hy').mono (by omega)
  | or => exact (inR_or hx' hy').mono (by omega)
  | xor => exact e ▸ inR_xor hx' hy'
theorem Tree.value_inR : ∀ {t : Tree}, t.Fine → InR (5 * t.leaves - 1) t.value
  | .leaf i, h => by unfold Tree.Fine at h; unfold Tree.leaves Tree.value InR; simp only [Nat.mul_one, Nat.reduceSub, Int.reducePow]; omega
  | .node o l r, h => inR_app o l.leaves_pos r.leaves_pos (value_inR h.1) (value_inR h.2)
theorem Tree.value_bound {t : Tree} (h : t.Fine) (hz : t.size ≤ 11) : -536870912 ≤ t.value ∧ t.value < 536870912 := by
  have := t.size_leaves
  have := (value_inR h).mono (n := 29) (by omega)
  unfold InR at this
  exact this
theorem Tree.value_bits {t : Tree} (h : t.Fine) (hz : t.size ≤ 11) : Builtin.Int.intBits t.value ≤ 64 := by
  have := value_bound h hz
  exact intBits_le_64 (by omega) (by omega)

inductive TreeIn (news : List (Addr × Obj)) : Value → Tree → Prop
  | leaf {a : Addr} {i : Int} {tk : Tok} {n : Nat} : (a, ({ cls := .type "tuple", data := .seq #[.int i tk] n } : Obj)) ∈ news → TreeIn news (.ref a) (.leaf i)
  | node {a : Addr} {o : Op} {tk : Tok} {v1 v2 : Value} {t1 t2 : Tree} {n : Nat} : (a, ({ cls := .type "tuple", data := .seq #[.str o.str tk, v1, v2] n } : Obj)) ∈ news → TreeIn news v1 t1 → TreeIn news v2 t2 → TreeIn news (.ref a) (.node o t1 t2)
theorem TreeIn.mono {news news' : List (Addr × Obj)} {v : Value} {t : Tree} (h : TreeIn news v t) (hs : ∀ p ∈ news, p ∈ news') : TreeIn news' v t := by
  induction h with
  | leaf hm => exact .leaf (hs _ hm)
  | node hm _ _ ih1 ih2 => exact .node (hs _ hm) ih1 ih2

/-! the ledger at a call's end: what is kept of it -/
section
variable {h₀ h : Heap} {L a : Addr} {o : Obj} {q : Addr × Obj} {l news tl l' : List (Addr × Obj)}
theorem newsOf (N : News h₀ L h l) (S : ∀ p ∈ l', p ∈ l) : News h₀ L h l' := fun p hp => N p (S p hp)
theorem lKeep (S : ∀ p ∈ news ++ tl, p ∈ l) : ∀ p ∈ news ++ (q :: tl), p ∈ q :: l := fun p hp => by
  rcases List.mem_append.mp hp with h | h
  · exact .tail _ (S p (List.mem_append_left _ h))
  · rcases List.mem_cons.mp h with rfl | h
    · exact .head _
    · exact .tail _ (S p (List.mem_append_right _ h))
theorem lSkip (S : ∀ p ∈ l', p ∈ l) : ∀ p ∈ l', p ∈ q :: l := fun p hp => .tail _ (S p hp)
theorem lAll : ∀ p ∈ l, p ∈ l := fun _ h => h
theorem lNil : ∀ p ∈ news ++ [], p ∈ news := fun p hp => by rw [List.append_nil] at hp; exact hp
theorem lNone : ∀ p ∈ news ++ [], p ∈ news ++ tl := fun p hp => by rw [List.append_nil] at hp; exact List.mem_append_left _ hp
theorem allLt_left : ∀ {l : List (Addr × Obj)}, AllLt a (l ++ tl) → AllLt a l
  | [], _ => trivial
  | _ :: _, h => ⟨h.1, allLt_left h.2⟩
theorem oKeep (h : AllLt a news) (k : ∀ q ∈ news, ∀ p ∈ tl, q.1 < p.1) : ∀ q ∈ news, ∀ p ∈ (a, o) :: tl, q.1 < p.1 := by
  intro q hq p hp
  rcases List.mem_cons.mp hp with rfl | hp
  · exact ktn_ltOf h q hq
  · exact k q hq p hp
end
theorem Fr.congr {h₀ h : Heap} {L : Addr} {m m' : Str → Option Value} (F : Fr h₀ L h m) (e : ∀ x, m' x = m x) : Fr h₀ L h m' := by
  have : m' = m := funext e
  rw [this]; exact F

/-- how a turn of a while may end; the end itself stays a name in the walk -/
noncomputable def WTo {σ : Type} (Mp : σ → Str → Option Value) (Lg : σ → List (Addr × Obj)) (size : σ → Nat) (P : σ → Prop) (h₀ : Heap) (L : Addr) (s : Shared) (st : σ) (W : Flow → Shared → Prop) : Prop :=
  ∀ h' tk st', Fr h₀ L h' (Mp st') → News h₀ L h' (Lg st') → size st' < size st → P st' → W .next { s with heap := h', toks := tk }
theorem WTo.end {σ : Type} {Mp : σ → Str → Option Value} {Lg : σ → List (Addr × Obj)} {size : σ → Nat} {P : σ → Prop} {h₀ h' : Heap} {L : Addr} {s : Shared} {st : σ} {W : Flow → Shared → Prop} {tk : Nat} {m : Str → Option Value} {l : List (Addr × Obj)}
    (T : WTo Mp Lg size P h₀ L s st W) (F : Fr h₀ L h' m) (N : News h₀ L h' l) (st' : σ) (em : ∀ x, Mp st' x = m x) (S : ∀ p ∈ Lg st', p ∈ l) (hz : size st' < size st) (hP : P st') : W .next { s with heap := h', toks := tk } :=
  T h' tk st' (Fr.congr F em) (newsOf N S) hz hP
theorem while_st {prog : Program} {w : World} {A : Around} {E : Value → Shared → Prop} {Q : Flow → Shared → Prop} {s : Shared} {env : Env} {h₀ : Heap} {L : Addr} {test : Expr} {body : List Stmt} {pos : Pos} {m : Str → Option Value} {news : List (Addr × Obj)}
    (F : Fr h₀ L s.heap m) (N : News h₀ L s.heap news)
    {σ : Type} (Mp : (Str → Option Value) → σ → Str → Option Value) (Lg : σ → List (Addr × Obj)) (size : σ → Nat) (P : σ → Prop) (st₀ : σ)
    (em : ∀ x, Mp m st₀ x = m x) (S : ∀ p ∈ Lg st₀, p ∈ news) (hP : P st₀)
    (turn : ∀ W st h₁ tk₁, WTo (Mp m) Lg size P h₀ L s st W → P st → Fr h₀ L h₁ (Mp m st) → News h₀ L h₁ (Lg st) →
      wpAny (model prog w) A (isTrue test env (eval test env)) (fun b s₂ =>
        if b = true then wpAny (model prog w) A (execs body env) W E s₂ else Q .next s₂) E { s with heap := h₁, toks := tk₁ })
    (hE : PassesOwn (model prog w) A env E := by passes_own) :
    wpAny (model prog w) A (exec (.While test body [] pos) env) Q E s := by
  refine While_inv (fun n m' l => ∃ st, size st = n ∧ m' = Mp m st ∧ l = Lg st ∧ P st) (Fr.congr F em) (newsOf N S) ⟨st₀, rfl, rfl, rfl, hP⟩ ?_ hE
  rintro n m₁ l₁ h₁ tk₁ F₁ N₁ ⟨st, rfl, rfl, rfl, hP₁⟩
  refine wpAny_mono (turn (fun f s₃ => f = .next ∧ ∃ h' tk st', s₃ = { s with heap := h', toks := tk } ∧ Fr h₀ L h' (Mp m st') ∧ News h₀ L h' (Lg st') ∧ size st' < size st ∧ P st') st h₁ tk₁
    (fun h' tk st' a b c d => ⟨rfl, h', tk, st', rfl, a, b, c, d⟩) hP₁ F₁ N₁) (fun b s₂ q => ?_) fun _ _ x => x
  cases b with
  | false => exact q
  | true =>
    simp only [if_true] at q ⊢
    refine wpAny_mono q (fun f s₃ ⟨e, h', tk, st', r⟩ => ?_) fun _ _ x => x
    exact ⟨e, h', tk, Mp m st', Lg st', size st', r.1, r.2.1, r.2.2.1, r.2.2.2.1, st', rfl, rfl, rfl, r.2.2.2.2⟩
noncomputable def XTo {σ : Type} (Mp : σ → Str → Option Value) (Lg : σ → List (Addr × Obj)) (R : σ → Prop) (h₀ : Heap) (L : Addr) (s : Shared) (X : Shared → Prop) : Prop :=
  ∀ h' tk st', Fr h₀ L h' (Mp st') → News h₀ L h' (Lg st') → R st' → X { s with heap := h', toks := tk }
theorem XTo.end {σ : Type} {Mp : σ → Str → Option Value} {Lg : σ → List (Addr × Obj)} {R : σ → Prop} {h₀ h' : Heap} {L : Addr} {s : Shared} {X : Shared → Prop} {tk : Nat} {m : Str → Option Value} {l : List (Addr × Obj)}
    (T : XTo Mp Lg R h₀ L s X) (F : Fr h₀ L h' m) (N : News h₀ L h' l) (st' : σ) (em : ∀ x, Mp st' x = m x) (S : ∀ p ∈ Lg st', p ∈ l) (hR : R st') : X { s with heap := h', toks := tk } :=
  T h' tk st' (Fr.congr F em) (newsOf N S) hR
theorem while_ex {prog : Program} {w : World} {A : Around} {E : Value → Shared → Prop} {Q : Flow → Shared → Prop} {s : Shared} {env : Env} {h₀ : Heap} {L : Addr} {test : Expr} {body : List Stmt} {pos : Pos} {m : Str → Option Value} {news : List (Addr × Obj)}
    (F : Fr h₀ L s.heap m) (N : News h₀ L s.heap news)
    {σ : Type} (Mp : (Str → Option Value) → σ → Str → Option Value) (Lg : σ → List (Addr × Obj)) (size : σ → Nat) (P R : σ → Prop) (st₀ : σ)
    (em : ∀ x, Mp m st₀ x = m x) (S : ∀ p ∈ Lg st₀, p ∈ news) (hP : P st₀)
    (turn : ∀ W X st h₁ tk₁, WTo (Mp m) Lg size P h₀ L s st W → XTo (Mp m) Lg R h₀ L s X → P st → Fr h₀ L h₁ (Mp m st) → News h₀ L h₁ (Lg st) →
      wpAny (model prog w) A (isTrue test env (eval test env)) (fun b s₂ =>
        if b = true then wpAny (model prog w) A (execs body env) W E s₂ else X s₂) E { s with heap := h₁, toks := tk₁ })
    (done : ∀ st h₁ tk₁, R st → Fr h₀ L h₁ (Mp m st) → News h₀ L h₁ (Lg st) → Q .next { s with heap := h₁, toks := tk₁ })
    (hE : PassesOwn (model prog w) A env E := by passes_own) :
    wpAny (model prog w) A (exec (.While test body [] pos) env) Q E s :=
  while_st F N Mp Lg size P st₀ em S hP (fun W st h₁ tk₁ T a b c => turn W (Q .next) st h₁ tk₁ T (fun h' tk st' F' N' r => done st' h' tk r F' N') a b c) hE
theorem em1 {a : Str} {m : Str → Option Value} {va : Option Value} (ha : m a = va) : ∀ x, (if x = a then va else m x) = m x := by
  intro x; by_cases h : x = a
  · rw [if_pos h, h, ha]
  · rw [if_neg h]
theorem em2 {a b : Str} {m : Str → Option Value} {va vb : Option Value} (ha : m a = va) (hb : m b = vb) : ∀ x, (if x = a then va else if x = b then vb else m x) = m x := by
  intro x; by_cases h : x = a
  · rw [if_pos h, h, ha]
  · rw [if_neg h]; exact em1 hb x
theorem em3 {a b c : Str} {m : Str → Option Value} {va vb vc : Option Value} (ha : m a = va) (hb : m b = vb) (hc : m c = vc) : ∀ x, (if x = a then va else if x = b then vb else if x = c then vc else m x) = m x := by
  intro x; by_cases h : x = a
  · rw [if_pos h, h, ha]
  · rw [if_neg h]; exact em2 hb hc x
theorem em4 {a b c d : Str} {m : Str → Option Value} {va vb vc vd : Option Value} (ha : m a = va) (hb : m b = vb) (hc : m c = vc) (hd : m d = vd) : ∀ x, (if x = a then va else if x = b then vb else if x = c then vc else if x = d then vd else m x) = m x := by
  intro x; by_cases h : x = a
  · rw [if_pos h, h, ha]
  · rw [if_neg h]; exact em3 hb hc hd x
theorem mm1 {a : Str} {m : Str → Option Value} {va wa : Option Value} : ∀ x, (if x = a then va else m x) = if x = a then va else if x = a then wa else m x := by
  intro x; by_cases h : x = a
  · rw [if_pos h, if_pos h]
  · rw [if_neg h, if_neg h, if_neg h]
theorem mm2 {a b : Str} {m : Str → Option Value} {va vb wa wb : Option Value} : ∀ x, (if x = a then va else if x = b then vb else m x) = if x = a then va else if x = b then vb else if x = a then wa else if x = b then wb else m x := by
  intro x; by_cases h : x = a
  · rw [if_pos h, if_pos h]
  · by_cases h2 : x = b
    · rw [if_neg h, if_neg h, if_pos h2, if_pos h2]
    · rw [if_neg h, if_neg h, if_neg h2, if_neg h2, if_neg h, if_neg h2]
theorem lSwap {q : Addr × Obj} {news tl : List (Addr × Obj)} : ∀ p ∈ q :: (news ++ tl), p ∈ news ++ (q :: tl) := fun p hp => by
  rcases List.mem_cons.mp hp with rfl | h
  · exact List.mem_append_right _ (.head _)
  · rcases List.mem_append.mp h with h | h
    · exact List.mem_append_left _ h
    · exact List.mem_append_right _ (.tail _ h)
/-- the walk stops here -/
noncomputable def Hold (p : Prop) : Prop := p
theorem hold {p : Prop} (h : Hold p) : p := h
end Mine
end
section
open PySem PySem.W PyProof PyProof.Rows PySem.Builtin PySem.Builtin.Str
namespace Mine
/-! texts as lists of signs -/
noncomputable abbrev tx (l : List Nat) : Str := ⟨l.toArray⟩
theorem tx_length (l : List Nat) : (tx l).length = l.length := by simp [Str.length]
theorem tx_append (a b : List Nat) : tx a ++ tx b = tx (a ++ b) := Str.ext' (by show (a.toArray ++ b.toArray) = _; simp)
theorem tx_to (l : List Nat) {j : Int} (h0 : 0 ≤ j) : Txt.slice (tx l) none (some j) = tx (l.take j.toNat) := by
  by_cases h : j ≤ l.length
  · have := beq_iff_eq.mp (slice_closes_to (x := tx l) (j := j) ⟨h0, by simpa using h⟩)
    rw [this]; simp
  · have e : strSliceIndices none (some j) 1 (tx l).length = strSliceIndices none (some (l.length : Int)) 1 (tx l).length := by
      rw [tx_length]
      have h0' : ¬ j < 0 := by omega
      have h1 : ¬ ((l.length : Int) < 0) := by omega
      have h2 : (1 : Int) > 0 := by decide
      have h3 : (l.length : Int) ≤ j := by omega
      simp only [strSliceIndices, h0', h1, h2, if_false, if_true, Int.min_eq_right h3, Int.min_self]
    have e2 : Txt.slice (tx l) none (some j) = Txt.slice (tx l) none (some (l.length : Int)) := by unfold Txt.slice; rw [e]
    have := beq_iff_eq.mp (slice_closes_to (x := tx l) (j := (l.length : Int)) ⟨by omega, by simp⟩)
    rw [e2, this]
    have : l.length ≤ j.toNat := by omega
    simp [List.take_of_length_le this]
theorem tx_from (l : List Nat) {i : Int} (h0 : 0 ≤ i) : Txt.slice (tx l) (some i) none = tx (l.drop i.toNat) := by
  by_cases h : i ≤ l.length
  · rw [slice_from_eq (b := (l.length : Int)) h0 (by rw [tx_length]; exact h) (by rw [tx_length])]
    have : (l.drop i.toNat).length ≤ (↑l.length - i).toNat := by rw [List.length_drop]; omega
    simp [List.take_of_length_le this]
  · rw [slice_beyond (by rw [tx_length]; omega)]
    have : l.drop i.toNat = [] := List.drop_eq_nil_of_le (by omega)
    rw [this]; rfl

section
variable {prog : Program} {w : World} {A : Around} {E : Value → Shared → Prop} {s : Shared} {value slice : Expr} {x y : Str} {t u : Tok} {h₀ : Heap} {L : Addr} {m : Str → Option Value} {news : List (Addr × Obj)} {Q : Value → Shared → Prop} {l l1 l2 : List Nat}
theorem r_slice_to {j : Int} {uj : Tok} (hF : Fr h₀ L s.heap m) (hN : News h₀ L s.heap news) (hx : x = tx l) (h0 : 0 ≤ j) (hz : l.length ≤ 1000) (h : ∀ h' t' k, Fr h₀ L h' m → News h₀ L h' news → Q (.str (tx (l.take j.toNat)) t') { s with heap := h', toks := k })
    (hs : subscripted slice false (.str x t) (.ref s.heap.objs.size) = operate [.ref s.heap.objs.size, .str x t] (getItem (.str x t) (.ref s.heap.objs.size)) := by with_unfolding_all rfl)
    (ht : ∀ r, letTemporaryGo value (.str x t) r = pure () := by intro _; with_unfolding_all rfl) :
    wpAny (model prog w) A (subscriptTail value slice (.str x t) (.ref s.heap.objs.size)) Q E { s with heap := s.heap.push { cls := .type "slice", data := .fields #[.none, .int j uj, .none] } } := by
  subst hx
  exact slice_strN_ns hF hN (fun h' t' k a b => by rw [tx_to l h0]; exact h h' t' k a b) hs ht (by rw [tx_length, sizeLine_eq]; omega)
theorem r_slice_from {i : Int} {ui : Tok} (hF : Fr h₀ L s.heap m) (hN : News h₀ L s.heap news) (hx : x = tx l) (h0 : 0 ≤ i) (hz : l.length ≤ 1000) (h : ∀ h' t' k, Fr h₀ L h' m → News h₀ L h' news → Q (.str (tx (l.drop i.toNat)) t') { s with heap := h', toks := k })
    (hs : subscripted slice false (.str x t) (.ref s.heap.objs.size) = operate [.ref s.heap.objs.size, .str x t] (getItem (.str x t) (.ref s.heap.objs.size)) := by with_unfolding_all rfl)
    (ht : ∀ r, letTemporaryGo value (.str x t) r = pure () := by intro _; with_unfolding_all rfl) :
    wpAny (model prog w) A (subscriptTail value slice (.str x t) (.ref s.heap.objs.size)) Q E { s with heap := s.heap.push { cls := .type "slice", data := .fields #[.int i ui, .none, .none] } } := by
  subst hx
  exact slice_strN_sn hF hN (fun h' t' k a b => by rw [tx_from l h0]; exact h h' t' k a b) hs ht (by rw [tx_length, sizeLine_eq]; omega)
theorem r_item {i : Int} {c : Nat} {v : Tok} (hx : x = tx l) (h0 : 0 ≤ i) (hc : l[i.toNat]? = some c) (hz : l.length ≤ 1000) (h : Q (.str (tx [c]) s.toks) { s with toks := s.toks + 1 })
    (hs : subscripted slice false (.str x t) (.int i v) = operate [.str x t, .int i v] (getItem (.str x t) (.int i v)) := by with_unfolding_all rfl)
    (ht : ∀ r, letTemporaryGo value (.str x t) r = pure () := by intro _; with_unfolding_all rfl) :
    wpAny (model prog w) A (subscriptTail value slice (.str x t) (.int i v)) Q E s := by
  subst hx
  have hlt : i.toNat < l.length := by
    obtain ⟨q, _⟩ := List.getElem?_eq_some_iff.mp hc
    exact q
  have e : Txt.item (tx l) i = tx [c] := by
    unfold Txt.item Txt.charAt
    have : seqIndex? i (tx l).length = some i.toNat := by
      rw [tx_length]
      unfold seqIndex?
      have h1 : ¬ i < 0 := by omega
      have h2 : i < (l.length : Int) := by omega
      simp [h1, h2, h0]
    rw [this]
    simp [hc]
  refine item_str (x := tx l) (fitsSsize_of (N := 9223372036854775808) (by omega) (by omega) (Int.le_refl _)) (by rw [tx_length]; omega) (by rw [tx_length]; omega) (fun _ => by rw [e]; exact h) hs ht
theorem r_add (hx : x = tx l1) (hy : y = tx l2) (hz : l1.length + l2.length ≤ 1000) (h : ∀ t' tk, Q (.str (tx (l1 ++ l2)) t') { s with toks := tk }) : wpAny (model prog w) A (binaryOp .Add (.str x t) (.str y u)) Q E s := by
  subst hx hy
  exact Rows.add_str (fun t' tk => by rw [tx_append]; exact h t' tk) (by rw [tx_length, tx_length, sizeLine_eq]; omega)
theorem r_upper {c : Nat} (hx : x = tx [c]) (hc : c = 97 ∨ c = 98 ∨ c = 99) (h : Q (.str (tx [c - 32]) s.toks) { s with toks := s.toks + 1 }) : wpAny (model prog w) A (call (.builtin "str.upper") [.str x t]) Q E s := by
  subst hx
  refine SCL.upper (by rw [tx_length]; simp) (fun _ => ?_)
  have e : Txt.upper (tx [c]) = tx [c - 32] := by rcases hc with rfl | rfl | rfl <;> decide +kernel
  rw [e]; exact h
theorem r_digit {i : Int} (h0 : 0 ≤ i) (h9 : i ≤ 9) (h : Q (.str (tx [48 + i.toNat]) s.toks) { s with toks := s.toks + 1 }) : wpAny (model prog w) A (call (.type "str") [.int i t]) Q E s := by
  have e : (Str.ofString (toString i)) = tx [48 + i.toNat] := by
    have : i = 0 ∨ i = 1 ∨ i = 2 ∨ i = 3 ∨ i = 4 ∨ i = 5 ∨ i = 6 ∨ i = 7 ∨ i = 8 ∨ i = 9 := by omega
    rcases this with rfl | rfl | rfl | rfl | rfl | rfl | rfl | rfl | rfl | rfl <;> decide +kernel
  refine P.str_of_int (shown (N := 2 ^ 1920) (by omega) (by omega) (Int.le_refl _)) ?_
  show Q (.str (Str.ofString (toString i)) s.toks) _
  rw [e]; exact h
theorem r_from1 {c : Nat} {ui : Tok} (hF : Fr h₀ L s.heap m) (hN : News h₀ L s.heap news) (hx : x = tx (c :: l)) (hz : l.length ≤ 900) (h : ∀ h' t' k, Fr h₀ L h' m → News h₀ L h' news → Q (.str (tx l) t') { s with heap := h', toks := k })
    (hs : subscripted slice false (.str x t) (.ref s.heap.objs.size) = operate [.ref s.heap.objs.size, .str x t] (getItem (.str x t) (.ref s.heap.objs.size)) := by with_unfolding_all rfl)
    (ht : ∀ r, letTemporaryGo value (.str x t) r = pure () := by intro _; with_unfolding_all rfl) :
    wpAny (model prog w) A (subscriptTail value slice (.str x t) (.ref s.heap.objs.size)) Q E { s with heap := s.heap.push { cls := .type "slice", data := .fields #[.int 1 ui, .none, .none] } } :=
  r_slice_from hF hN hx (by decide) (by simp only [List.length_cons]; omega) h hs ht
theorem r_from2 {c d : Nat} {ui : Tok} (hF : Fr h₀ L s.heap m) (hN : News h₀ L s.heap news) (hx : x = tx (c :: d :: l)) (hz : l.length ≤ 900) (h : ∀ h' t' k, Fr h₀ L h' m → News h₀ L h' news → Q (.str (tx l) t') { s with heap := h', toks := k })
    (hs : subscripted slice false (.str x t) (.ref s.heap.objs.size) = operate [.ref s.heap.objs.size, .str x t] (getItem (.str x t) (.ref s.heap.objs.size)) := by with_unfolding_all rfl)
    (ht : ∀ r, letTemporaryGo value (.str x t) r = pure () := by intro _; with_unfolding_all rfl) :
    wpAny (model prog w) A (subscriptTail value slice (.str x t) (.ref s.heap.objs.size)) Q E { s with heap := s.heap.push { cls := .type "slice", data := .fields #[.int 2 ui, .none, .none] } } :=
  r_slice_from hF hN hx (by decide) (by simp only [List.length_cons]; omega) h hs ht
end
theorem lit_eq : Str.ofString "=" = tx [61] := by decide +kernel
theorem lit_comma : Str.ofString "," = tx [44] := by decide +kernel
theorem lit_empty : Str.ofString "" = tx [] := by decide +kernel
theorem lit_abc : Str.ofString "abc" = tx [97, 98, 99] := by decide +kernel
theorem opStr_tx (o : Op) : o.str = tx [o.code] := by cases o <;> decide +kernel
end Mine
end
section
open PySem PySem.W PyProof.Rows
namespace Mine
noncomputable def tab : List (List Nat × Int) := [([33], 54), ([33, 61], 28), ([37], 24), ([37, 61], 40), ([38], 19), ([38, 61], 41), ([40], 7), ([41], 8), ([42], 16), ([42, 42], 35), ([42, 42, 61], 46), ([42, 61], 38), ([43], 14), ([43, 61], 36), ([44], 12), ([45], 15), ([45, 61], 37), ([45, 62], 51), ([46], 23), ([46, 46, 46], 52), ([47], 17), ([47, 47], 47), ([47, 47, 61], 48), ([47, 61], 39), ([58], 11), ([58, 61], 53), ([59], 13), ([60], 20), ([60, 60], 33), ([60, 60, 61], 44), ([60, 61], 29), ([61], 22), ([61, 61], 27), ([62], 21), ([62, 61], 30), ([62, 62], 34), ([62, 62, 61], 45), ([64], 49), ([64, 61], 50), ([91], 9), ([93], 10), ([94], 32), ([94, 61], 43), ([123], 25), ([124], 18), ([124, 61], 42), ([125], 26), ([126], 31)]
noncomputable def look (l : List Nat) : Option Int := (tab.find? fun p => p.1 == l).map (·.2)
noncomputable def tabD : List (PyData × PyData) := tab.map fun p => (.str (tx p.1), .int p.2)
theorem lookup_tab (l : List Nat) : Spec.lookup (.str (tx l)) tabD = (look l).map .int := by
  unfold tabD look
  generalize tab = t
  induction t with
  | nil => rfl
  | cons p r ih =>
    simp only [List.map_cons, Spec.lookup]
    rw [PyProof.V.same_str]
    have e : decide (tx p.1 = tx l) = (p.1 == l) := by
      by_cases h : p.1 = l
      · subst h; simp
      · have : tx p.1 ≠ tx l := fun q => h (by have := congrArg (fun s : Str => s.cps.toList) q; simpa using this)
        simp [h, this]
    rw [e, List.find?_cons]
    cases h : (p.1 == l) with
    | true => simp
    | false => simpa using ih
noncomputable def RowOk (P : Params) (e : DictEntry) (p : List Nat × Int) : Prop := ∃ t t', e.key = .str (tx p.1) t ∧ e.hash = PyData.keyHash P (tx p.1) ∧ e.val = .int p.2 t'
noncomputable def RowsOk (P : Params) : List DictEntry → List (List Nat × Int) → Prop
  | [], [] => True
  | e :: r, p :: q => RowOk P e p ∧ RowsOk P r q
  | _, _ => False
theorem rows_facts {prog : Program} {w : World} : ∀ {es : List DictEntry} {t : List (List Nat × Int)}, RowsOk w.params es t →
    ∃ kvs : List (Str × Value), (∀ e ∈ es, ∃ k, (strKind prog w).is k e.key = true ∧ e.hash = (strKind prog w).hash k) ∧ Pairs (strKind prog w) es kvs ∧ kvs.map (·.1) = t.map (fun p => tx p.1) ∧ PyProof.V.FlatPairs PyData.str kvs (t.map fun p => (.str (tx p.1), .int p.2))
  | [], [], _ => ⟨[], fun _ h => (nomatch h), .nil, rfl, .nil⟩
  | e :: r, p :: q, ⟨⟨t, t', hk, hh, hv⟩, hr⟩ => by
    obtain ⟨kvs, h1, h2, h3, h4⟩ := rows_facts (prog := prog) hr
    refine ⟨(tx p.1, .int p.2 t') :: kvs, ?_, .cons (by rw [hk]; exact strKind_is prog w _ _) hv h2, by simp [h3], .cons (PyProof.V.Flat.int _ _) h4⟩
    intro e' he
    rcases List.mem_cons.mp he with rfl | he
    · exact ⟨tx p.1, by rw [hk]; exact strKind_is prog w _ _, hh⟩
    · exact h1 e' he
theorem tab_nodup : (tab.map fun p => tx p.1).Nodup := by
  have h : (tab.map (·.1)).Nodup := by decide +kernel
  have e : tab.map (fun p => tx p.1) = (tab.map (·.1)).map tx := by rw [List.map_map]; rfl
  rw [e]
  exact List.Pairwise.map tx (fun a b q hab => q (by have := congrArg (fun s : Str => s.cps.toList) hab; simpa using this)) h
theorem strTab_of {K : Frag} {prog : Program} {w : World} {h : Heap} {a : Addr} {es : List DictEntry} {n : Nat} (X : K.In h) (hl : K.lookup a = some ⟨.type "dict", none, .dict es.toArray n, #[]⟩) (hr : RowsOk w.params es tab) (ha : (a == sysModules) = false) :
    StrTab prog w h a tabD := by
  obtain ⟨kvs, h1, h2, h3, h4⟩ := rows_facts (prog := prog) hr
  refine ⟨ha, kvs, ⟨_, es.toArray, n, X _ _ hl, ⟨rfl, rfl, rfl⟩, rfl, fun e he => h1 e (by simpa using he), h2, ?_⟩, h4⟩
  rw [h3]; exact tab_nodup
section
variable {prog : Program} {w : World} {A : Around} {E : Value → Shared → Prop} {s : Shared} {x : Str} {t tz : Tok} {d : Addr} {Q : Value → Shared → Prop} {l : List Nat} {z : Int}
theorem r_notin (T : StrTab prog w s.heap d tabD) (hx : x = tx l) (h : Q (.bool (!(look l).isSome)) { s with toks := s.toks + 1 }) : wpAny (model prog w) A (compareOp .NotIn (.str x t) (.ref d)) Q E s := by
  subst hx
  refine notin_strTab T ?_
  rw [lookup_tab, Option.isSome_map]; exact h
theorem r_get (T : StrTab prog w s.heap d tabD) (hx : x = tx l) (h : ∀ t, Q (.int ((look l).getD z) t) { s with toks := s.toks + 1 }) : wpAny (model prog w) A (call (.builtin "dict.get") [.ref d, .str x t, .int z tz]) Q E s := by
  subst hx
  refine call_get2_strTab T (PyProof.V.Flat.int z tz) fun v hv => ?_
  rw [lookup_tab] at hv
  cases e : look l with
  | none => rw [e] at hv h; obtain ⟨t, rfl⟩ : ∃ t, v = .int z t := PyProof.V.Flat.int_inv hv; exact h t
  | some i => rw [e] at hv h; obtain ⟨t, rfl⟩ : ∃ t, v = .int i t := PyProof.V.Flat.int_inv hv; exact h t
end
end Mine
end
section
open PySem PySem.W PyProof.Rows
namespace Mine
theorem fill : (fun (_ : OpenLaw) (_ : Params → Frag) => True) PySem.Challenge.rw_we0032_01 kmake.heap_1 := by
  k_fill
  trivial

section Value
variable {w : World} {p : Program} {loose : List Str} {mean : ExcName → Option Value} {mg mb : Str → Option Value}
noncomputable abbrev valueT : ToldN Tree where
  Rel := fun news vs t => ∃ v, vs = [v] ∧ TreeIn news v t
  Ok := fun t => t.Fine ∧ t.size ≤ 11
  size := Tree.size
  Tl := fun tl => tl = []
  Out := fun _ r t => ∃ tk, r = .int t.value tk
local macro_rules | `(tactic| ktr_rel) => `(tactic| first | exact ⟨_, rfl, by assumption⟩ | exact ⟨_, rfl⟩ | exact rfl | assumption)
local macro_rules | `(tactic| walk_at "call ref") => `(tactic| ktn_call (Str.ofString "_law_value") valueT)
local macro_rules | `(tactic| ktr_unf) => `(tactic| (try simp only [valueT, Tree.size] at *))
theorem value_tells : ∀ d, TellsN PySem.Challenge.rw_we0032_01.row.prog w (kmake.heap_1 w.params) p loose mean mg mb 253 valueT d := by
  w_top off
  refine tellsN_of fun d IH => ?_
  unfold TellsN
  intro dp un gd cn cs a ccd cl outer A₀ base h₀ L m news s vs Q E B F X N T hk hR hok hd hu hret
  obtain ⟨v, rfl, hR⟩ := hR
  cases hR
  case leaf =>
    refine wpAny_call ?_
    k_dflt ktr_enter
    k_steps
    all_goals ktn_end hret
  case node o tk v1 v2 t1 t2 n hm h1 h2 =>
    obtain ⟨⟨f1, f2⟩, hz⟩ := hok
    have ok1 : valueT.Ok t1 := ⟨f1, by simp only [Tree.size] at hz; omega⟩
    have ok2 : valueT.Ok t2 := ⟨f2, by simp only [Tree.size] at hz; omega⟩
    have hb := Tree.value_bits ok1.1 ok1.2
    cases o
    all_goals (
      refine wpAny_call ?_
      k_dflt ktr_enter
      k_steps
      all_goals ktn_end hret)
end Value
end Mine
end
section
open PySem PySem.W PyProof.Rows
namespace Mine
local macro_rules | `(tactic| k_mem) => `(tactic| first | exact List.mem_cons_self .. | (refine List.mem_cons_of_mem _ ?_; k_mem))
local macro_rules | `(tactic| ktn_lt) => `(tactic| first
  | exact allLt_left (by assumption) | exact allLt_left (And.right (by assumption)) | exact allLt_left (And.right (And.right (by assumption))) | exact allLt_left (And.right (And.right (And.right (by assumption))))
  | exact allLt_left (allLt_of (by assumption)) | exact allLt_of (by assumption)
  | exact And.right (by assumption) | exact And.right (And.right (by assumption)) | exact And.right (And.right (And.right (by assumption))))
noncomputable def strip2 (o : Op) : Option Tree → Option Tree → Option Tree
  | none, none => some (.leaf 0)
  | none, some s => some s
  | some s, none => some s
  | some a, some b => some (.node o a b)
noncomputable def strip : Tree → Option Tree
  | .leaf _ => none
  | .node o l r => strip2 o (strip l) (strip r)
noncomputable def Tree.data : Tree → PyData
  | .leaf i => .tuple [.int i]
  | .node o l r => .tuple [.str o.str, l.data, r.data]
noncomputable def sdata : Option Tree → PyData
  | none => .tuple []
  | some t => t.data

inductive SIn (news : List (Addr × Obj)) : Value → Option Tree → Prop
  | none {a : Addr} {n : Nat} : (a, ({ cls := .type "tuple", data := .seq #[] n } : Obj)) ∈ news → SIn news (.ref a) none
  | some {v : Value} {t : Tree} : TreeIn news v t → SIn news v (some t)
theorem SIn.mono {news news' : List (Addr × Obj)} {v : Value} {t : Option Tree} (h : SIn news v t) (hs : ∀ p ∈ news, p ∈ news') : SIn news' v t := by
  cases h with
  | none hm => exact .none (hs _ hm)
  | some h => exact .some (h.mono hs)
theorem SIn.tree {news : List (Addr × Obj)} {v : Value} {t : Tree} (h : SIn news v (Option.some t)) : TreeIn news v t := by cases h; assumption

theorem tree_reads {h₀ h : Heap} {L : Addr} {news : List (Addr × Obj)} {v : Value} {t : Tree} (N : News h₀ L h news) (ht : TreeIn news v t) : Reads h v t.data [] := by
  induction ht with
  | leaf hm => exact Reads.tuple (N.get hm) rfl rfl (ReadsAll.cons (Reads.int _ _) ReadsAll.nil)
  | node hm _ _ ih1 ih2 => exact Reads.tuple (N.get hm) rfl rfl (ReadsAll.cons (Reads.str _ _) (ReadsAll.cons ih1 (ReadsAll.cons ih2 ReadsAll.nil)))
theorem s_reads {h₀ h : Heap} {L : Addr} {news : List (Addr × Obj)} {v : Value} {t : Option Tree} (N : News h₀ L h news) (ht : SIn news v t) : Reads h v (sdata t) [] := by
  cases ht with
  | none hm => exact Reads.tuple (N.get hm) rfl rfl ReadsAll.nil
  | some h => exact tree_reads N h
theorem Op.strOk (o : Op) : PyData.strOk o.str = true := by cases o <;> decide +kernel
theorem Tree.canLay : ∀ t : Tree, t.data.canLay0 = true
  | .leaf _ => rfl
  | .node o l r => by simp [Tree.data, PyData.canLay0, PyData.canLayAll0, l.canLay, r.canLay, o.strOk]
theorem Tree.depth : ∀ t : Tree, t.data.depth ≤ t.size
  | .leaf _ => Nat.le_refl 1
  | .node o l r => by have := l.depth; have := r.depth; simp [Tree.data, PyData.depth, PyData.depthAll, Tree.size]; omega
theorem Tree.shaped {t : Tree} (h : t.size ≤ 11) : SeqAt.shaped t.data = true := by
  have := t.depth
  simp only [SeqAt.shaped, t.canLay, Bool.true_and, decide_eq_true_eq]; omega
theorem s_shaped {t : Option Tree} (h : ∀ t', t = some t' → t'.size ≤ 11) : SeqAt.shaped (sdata t) = true := by
  cases t with
  | none => rfl
  | some t => exact Tree.shaped (h t rfl)
theorem s_eqv (t : Option Tree) : PyData.eqv (sdata t) (.tuple []) = t.isNone := by
  cases t with
  | none => rfl
  | some t => cases t <;> rfl
theorem strip_size : ∀ {t : Tree} {t' : Tree}, strip t = some t' → t'.size < t.size
  | .leaf _, t', h => by cases h
  | .node o l r, t', h => by
    unfold strip at h
    have hl := @strip_size l
    have hr := @strip_size r
    cases e1 : strip l <;> cases e2 : strip r <;> rw [e1, e2] at h <;> unfold strip2 at h <;> cases h
    · have := l.size_leaves; have := r.size_leaves; have := l.leaves_pos; have := r.leaves_pos; simp only [Tree.size]; omega
    · have := hr e2; simp only [Tree.size]; omega
    · have := hl e1; simp only [Tree.size]; omega
    · have := hl e1; have := hr e2; simp only [Tree.size]; omega
theorem empty_reads {h₀ h : Heap} {L a : Addr} {n : Nat} {news : List (Addr × Obj)} (N : News h₀ L h news) (hm : (a, ({ cls := .type "tuple", data := .seq #[] n } : Obj)) ∈ news) : Reads h (.ref a) (.tuple []) [] := Reads.tuple (N.get hm) rfl rfl ReadsAll.nil
theorem eq_empty {prog : Program} {w : World} {A : Around} {E : Value → Shared → Prop} {s : Shared} {Q : Value → Shared → Prop} {h₀ : Heap} {L a : Addr} {n : Nat} {v : Value} {t : Tree} {news news' : List (Addr × Obj)} (N : News h₀ L s.heap news) (hm : (a, ({ cls := .type "tuple", data := .seq #[] n } : Obj)) ∈ news) (hv : SIn news' v (strip t)) (hs : ∀ p ∈ news', p ∈ news) (hz : t.size ≤ 11)
    (hu : A.units + 64 < cLine) (h : Q (.bool (strip t).isNone) s) : wpAny (model prog w) A (compareOp .Eq v (.ref a)) Q E s := by
  refine eq_dataH (s_reads N (hv.mono hs)) (empty_reads N hm) (s_shaped fun t' e => ?_) rfl hu (by rw [s_eqv]; exact h)
  have := strip_size e
  omega

section Stripped
variable {w : World} {p : Program} {loose : List Str} {mean : ExcName → Option Value} {mg mb : Str → Option Value}
noncomputable abbrev strippedT : ToldN Tree where
  Rel := fun news vs t => ∃ v, vs = [v] ∧ TreeIn news v t
  Ok := fun t => t.size ≤ 11
  size := fun t => t.size + 20
  Tl := fun tl => True
  Out := fun news r t => SIn news r (strip t)
theorem send1 {news : List (Addr × Obj)} {v2 : Value} {o : Op} {t1 t2 : Tree} (h2 : SIn news v2 (strip t2)) (c1 : (strip t1).isNone = true) (c2 : (strip t2).isNone = false) : SIn news v2 (strip (.node o t1 t2)) := by
  unfold strip
  cases e1 : strip t1 with
  | some a => rw [e1] at c1; cases c1
  | none =>
    cases e2 : strip t2 with
    | none => rw [e2] at c2; cases c2
    | some b => rw [e2] at h2; exact h2
theorem send2 {news : List (Addr × Obj)} {v1 : Value} {o : Op} {t1 t2 : Tree} (h1 : SIn news v1 (strip t1)) (c1 : (strip t1).isNone = false) (c2 : (strip t2).isNone = true) : SIn news v1 (strip (.node o t1 t2)) := by
  unfold strip
  cases e1 : strip t1 with
  | none => rw [e1] at c1; cases c1
  | some a =>
    cases e2 : strip t2 with
    | none => rw [e1] at h1; exact h1
    | some b => rw [e2] at c2; cases c2
theorem send0 {news : List (Addr × Obj)} {a : Addr} {tk : Tok} {n : Nat} {o : Op} {t1 t2 : Tree} (c1 : (strip t1).isNone = true) (c2 : (strip t2).isNone = true) (hm : (a, ({ cls := .type "tuple", data := .seq #[.int 0 tk] n } : Obj)) ∈ news) : SIn news (.ref a) (strip (.node o t1 t2)) := by
  unfold strip
  cases e1 : strip t1 with
  | some a => rw [e1] at c1; cases c1
  | none =>
    cases e2 : strip t2 with
    | none => exact .some (.leaf hm)
    | some b => rw [e2] at c2; cases c2
theorem send3 {news : List (Addr × Obj)} {a : Addr} {tk : Tok} {n : Nat} {o : Op} {t1 t2 : Tree} {v1 v2 : Value} (h1 : SIn news v1 (strip t1)) (h2 : SIn news v2 (strip t2)) (c1 : (strip t1).isNone = false) (c2 : (strip t2).isNone = false) (hm : (a, ({ cls := .type "tuple", data := .seq #[.str o.str tk, v1, v2] n } : Obj)) ∈ news) : SIn news (.ref a) (strip (.node o t1 t2)) := by
  unfold strip
  cases e1 : strip t1 with
  | none => rw [e1] at c1; cases c1
  | some a =>
    cases e2 : strip t2 with
    | none => rw [e2] at c2; cases c2
    | some b => rw [e1] at h1; rw [e2] at h2; exact .some (.node hm h1.tree h2.tree)
local macro_rules | `(tactic| ktr_rel) => `(tactic| first | exact ⟨_, rfl, by assumption⟩ | exact ⟨_, rfl, TreeIn.mono (by assumption) ktn_subA⟩ | exact ⟨_, rfl⟩ | exact rfl | exact trivial | assumption)
local macro_rules | `(tactic| walk_at "call ref") => `(tactic| ktn_call (Str.ofString "_law_stripped") strippedT)
local macro_rules | `(tactic| ktr_unf) => `(tactic| (try simp only [strippedT, Tree.size] at *))
local macro_rules | `(tactic| walk_at "compareOp Eq") => `(tactic| (refine eq_empty (by k_asm) (by k_mem) (by assumption) (by ktd_sub) (by assumption) (by ktr_units) ?_))
theorem stripped_tells : ∀ d, TellsN PySem.Challenge.rw_we0032_01.row.prog w (kmake.heap_1 w.params) p loose mean mg mb 260 strippedT d := by
  w_top off
  refine tellsN_of fun d IH => ?_
  unfold TellsN
  intro dp un gd cn cs a ccd cl outer A₀ base h₀ L m news s vs Q E B F X N T hk hR hok hd hu hret
  obtain ⟨v, rfl, hR⟩ := hR
  cases hR
  case leaf =>
    refine wpAny_call ?_
    k_dflt ktr_enter
    k_steps
    all_goals (refine hret _ [_] _ _ (by k_asm) (ktn_tl1 (by k_asm)) (ktn_ord1 (by ktn_lt)) trivial ?_; exact SIn.none ktn_new)
  case node o tk v1 v2 t1 t2 n hm h1 h2 =>
    have ok1 : t1.size ≤ 11 := by unfold strippedT Tree.size at hok; dsimp only at hok ⊢; omega
    have ok2 : t2.size ≤ 11 := by unfold strippedT Tree.size at hok; dsimp only at hok ⊢; omega
    refine wpAny_call ?_
    k_dflt ktr_enter
    k_steps
    all_goals (rename News _ _ _ _ => hN; have ho := ktn_ordA (by assumption) (by assumption : ∀ q ∈ news ++ _, _))
    · exact hret _ _ _ _ (by k_asm) (newsOf hN (lKeep (lSkip (lSkip lAll)))) (oKeep (by ktn_lt) ho) trivial (send0 (by assumption) (by assumption) ktn_new)
    · exact hret _ _ _ _ (by k_asm) (newsOf hN (lSkip (lSkip (lSkip lAll)))) ho trivial (send1 (by assumption) (by assumption) (by assumption))
    · exact hret _ _ _ _ (by k_asm) (newsOf hN (lSkip (lSkip (lSkip lAll)))) ho trivial (send2 (SIn.mono (by assumption) ktn_subC) (by assumption) (by assumption))
    · exact hret _ _ _ _ (by k_asm) (newsOf hN (lKeep (lSkip (lSkip (lSkip lAll))))) (oKeep (by ktn_lt) ho) trivial (send3 (SIn.mono (by assumption) ktn_subD) (SIn.mono (by assumption) ktn_subB) (by assumption) (by assumption) ktn_new)
end Stripped
end Mine
end
section
open PySem PySem.W PyProof.Rows
namespace Mine
local macro_rules | `(tactic| k_mem) => `(tactic| first | exact List.mem_cons_self .. | (refine List.mem_cons_of_mem _ ?_; k_mem))
local macro_rules | `(tactic| ktn_lt) => `(tactic| first
  | exact allLt_left (by assumption) | exact allLt_left (And.right (by assumption)) | exact allLt_left (And.right (And.right (by assumption))) | exact allLt_left (And.right (And.right (And.right (by assumption))))
  | exact allLt_left (allLt_of (by assumption)) | exact allLt_of (by assumption)
  | exact And.right (by assumption) | exact And.right (And.right (by assumption)) | exact And.right (And.right (And.right (by assumption))))
noncomputable def reg : Tree → Nat
  | .leaf _ => 1
  | .node _ l r => if reg l = reg r then reg l + 1 else max (reg l) (reg r)
noncomputable def regO : Option Tree → Nat
  | none => 0
  | some t => reg t
theorem reg_pos : ∀ t, 1 ≤ reg t
  | .leaf _ => Nat.le_refl _
  | .node _ l r => by have := reg_pos l; unfold reg; split <;> omega
theorem reg_strip : ∀ t, reg t = regO (strip t) + 1
  | .leaf _ => rfl
  | .node o l r => by
    have hl := reg_strip l
    have hr := reg_strip r
    unfold reg strip
    cases e1 : strip l <;> cases e2 : strip r <;> rw [e1] at hl <;> rw [e2] at hr <;> simp only [regO, strip2] at hl hr ⊢
    · rw [hl, hr]; rfl
    · rename_i b; have := reg_pos b; rw [hl, hr]; rw [if_neg (by omega)]; omega
    · rename_i b; have := reg_pos b; rw [hl, hr]; rw [if_neg (by omega)]; omega
    · rw [hl, hr, reg]
      split <;> split <;> omega
theorem regO_strip (t : Tree) : regO (strip t) + 1 = reg t := (reg_strip t).symm
theorem ne_empty_none {prog : Program} {w : World} {A : Around} {E : Value → Shared → Prop} {s : Shared} {Q : Value → Shared → Prop} {h₀ : Heap} {L a : Addr} {n : Nat} {v : Value} {news news' : List (Addr × Obj)} (N : News h₀ L s.heap news) (hm : (a, ({ cls := .type "tuple", data := .seq #[] n } : Obj)) ∈ news) (hv : SIn news' v none) (hs : ∀ p ∈ news', p ∈ news)
    (hu : A.units + 64 < cLine) (h : Q (.bool false) s) : wpAny (model prog w) A (compareOp .NotEq v (.ref a)) Q E s :=
  ne_dataH (s_reads N (hv.mono hs)) (empty_reads N hm) rfl rfl hu h
theorem ne_empty_some {prog : Program} {w : World} {A : Around} {E : Value → Shared → Prop} {s : Shared} {Q : Value → Shared → Prop} {h₀ : Heap} {L a : Addr} {n : Nat} {v : Value} {t : Tree} {news news' : List (Addr × Obj)} (N : News h₀ L s.heap news) (hm : (a, ({ cls := .type "tuple", data := .seq #[] n } : Obj)) ∈ news) (hv : SIn news' v (some t)) (hs : ∀ p ∈ news', p ∈ news) (hz : t.size ≤ 11)
    (hu : A.units + 64 < cLine) (h : Q (.bool true) s) : wpAny (model prog w) A (compareOp .NotEq v (.ref a)) Q E s := by
  refine ne_dataH (s_reads N (hv.mono hs)) (empty_reads N hm) (s_shaped fun t' e => ?_) rfl hu (by rw [s_eqv]; exact h)
  cases e; exact hz

section Strips
variable {w : World} {p : Program} {loose : List Str} {mean : ExcName → Option Value} {mg mb : Str → Option Value}
noncomputable abbrev stripsT : ToldN Tree where
  Rel := fun news vs t => ∃ v, vs = [v] ∧ TreeIn news v t
  Ok := fun t => t.size ≤ 11
  size := fun t => t.size + 30
  Tl := fun tl => tl = []
  Out := fun _ r t => ∃ tk, r = .int (reg t : Nat) tk
local macro_rules | `(tactic| ktr_rel) => `(tactic| first | exact ⟨_, rfl, by assumption⟩ | exact ⟨_, rfl, TreeIn.mono (SIn.tree (by assumption)) (by ktd_sub)⟩ | exact ⟨_, rfl⟩ | exact rfl | exact trivial | assumption)
local macro_rules | `(tactic| walk_at "call ref") => `(tactic| ktn_call (Str.ofString "_law_stripped") strippedT)
local macro_rules | `(tactic| ktr_unf) => `(tactic| (try simp only [stripsT, strippedT, Tree.size] at *))
local macro_rules | `(tactic| walk_at "compareOp NotEq") => `(tactic| first | (refine ne_empty_none (by k_asm) (by k_mem) (by assumption) (by ktd_sub) (by ktr_units) ?_) | (refine ne_empty_some (by k_asm) (by k_mem) (by assumption) (by ktd_sub) (by assumption) (by ktr_units) ?_))
local macro_rules | `(tactic| walk_at "exec While Compare cons nil") => `(tactic| refine hold ?_)
structure StripsSt where
  t : Option Tree
  v : Value
  c : Int
  tk : Tok
  tl : List (Addr × Obj)
theorem strips_tells : ∀ d, TellsN PySem.Challenge.rw_we0032_01.row.prog w (kmake.heap_1 w.params) p loose mean mg mb 267 stripsT d := by
  w_top off
  intro t
  have C := @stripped_tells w p loose mean mg mb
  unfold TellsN
  intro dp un gd cn cs a ccd cl outer A₀ base h₀ L m news s vs Q E B F X N T hk hR hok hd hu hret
  obtain ⟨v, rfl, hR⟩ := hR
  have hok : t.size ≤ 11 := hok
  refine wpAny_call ?_
  k_dflt ktr_enter
  k_steps
  unfold Hold
  (rename Fr _ _ _ _ => hF; rename News _ _ _ _ => hN)
  refine while_st hF hN (σ := StripsSt) (fun m st x => if x = Str.ofString "count" then some (.int st.c st.tk) else if x = Str.ofString "tree" then some st.v else m x) (fun st => news ++ st.tl) (fun st => regO st.t)
    (fun st => SIn (news ++ st.tl) st.v st.t ∧ st.c + (regO st.t : Nat) = (reg t : Nat) ∧ ∀ t', st.t = some t' → t'.size ≤ t.size) ⟨some t, v, 0, _, []⟩ (em2 rfl rfl) lNil ⟨SIn.some (hR.mono ktn_subA), (by simp only [regO]; omega), (by intro t' e; cases e; exact Nat.le_refl _)⟩ ?_
  clear hF hN
  rintro Wk ⟨ot, v, c, tk, tl⟩ h₁ tk₁ hW ⟨hS, hc, hz⟩ hF hN
  dsimp only at hS hc hz hF hN ⊢
  cases ot with
  | none =>
    k_steps
    (rename News _ _ _ _ => hN)
    have e : c = (reg t : Nat) := by simp only [regO] at hc; omega
    exact hret _ [] _ _ (by k_asm) (newsOf hN (lSkip lNone)) ktn_ord0 rfl ⟨_, by rw [e]⟩
  | some t' =>
    have hz' := hz t' rfl
    have hz2 : t'.size ≤ 11 := Nat.le_trans hz' hok
    k_steps
    (rename Fr _ _ _ _ => hF; rename News _ _ _ _ => hN)
    have hp := regO_strip t'
    refine hW.end hF hN ⟨strip t', _, c + 1, _, _⟩ mm2 (lKeep lAll) ?_ ⟨SIn.mono (by assumption) lSwap, ?_, ?_⟩
    · show regO (strip t') < reg t'
      omega
    · show c + 1 + ((regO (strip t') : Nat) : Int) = (reg t : Nat)
      have hc : c + ((reg t' : Nat) : Int) = (reg t : Nat) := hc
      omega
    · intro t2 e
      have := strip_size e
      omega
end Strips
end Mine
end
section
open PySem PySem.W PyProof.Rows
namespace Mine
local macro_rules | `(tactic| k_mem) => `(tactic| first | exact List.mem_cons_self .. | (refine List.mem_cons_of_mem _ ?_; k_mem))
local macro_rules | `(tactic| ktn_lt) => `(tactic| first
  | exact allLt_left (by assumption) | exact allLt_left (And.right (by assumption)) | exact allLt_left (And.right (And.right (by assumption))) | exact allLt_left (And.right (And.right (And.right (by assumption))))
  | exact allLt_left (allLt_of (by assumption)) | exact allLt_of (by assumption)
  | exact And.right (by assumption) | exact And.right (And.right (by assumption)) | exact And.right (And.right (And.right (by assumption))))
inductive Stm where
  | lay (r : Nat) (i : Int)
  | deed (a b : Nat) (o : Op)
noncomputable def Stm.codes : Stm → List Nat
  | .lay r i => [r - 32, 61, 48 + i.toNat, 44]
  | .deed a b o => [a, o.code, 61, b, 44]
noncomputable def codesOf (l : List Stm) : List Nat := l.flatMap Stm.codes
theorem codesOf_append (a b : List Stm) : codesOf (a ++ b) = codesOf a ++ codesOf b := by simp [codesOf]
noncomputable def textOf (l : List Stm) : Str := tx (codesOf l)
noncomputable def compile : Tree → List Nat → List Stm
  | .leaf i, ns => [.lay (ns.headD 0) i]
  | .node o l r, ns =>
    let a := ns.headD 0
    let b := ns.tail.headD 0
    if reg r ≤ reg l then compile l ns ++ compile r ns.tail ++ [.deed a b o]
    else compile r (b :: a :: ns.tail.tail) ++ compile l (a :: ns.tail.tail) ++ [.deed a b o]
theorem compile_length : ∀ (t : Tree) (ns : List Nat), (compile t ns).length = t.size
  | .leaf _, _ => rfl
  | .node o l r, ns => by
    unfold compile Tree.size
    split <;> simp only [List.length_append, List.length_cons, List.length_nil, compile_length l, compile_length r] <;> omega
theorem codes_le : ∀ l : List Stm, (codesOf l).length ≤ 5 * l.length
  | [] => Nat.le_refl _
  | x :: r => by
    have := codes_le r
    have e : codesOf (x :: r) = x.codes ++ codesOf r := by simp [codesOf]
    rw [e, List.length_append, List.length_cons]
    have : x.codes.length ≤ 5 := by cases x <;> simp [Stm.codes]
    omega
theorem codes_bound {t : Tree} (h : t.size ≤ 11) (ns : List Nat) : (codesOf (compile t ns)).length ≤ 55 := by
  have := codes_le (compile t ns)
  rw [compile_length] at this
  omega
noncomputable def Letter (x : Nat) : Prop := x = 97 ∨ x = 98 ∨ x = 99
noncomputable def NamesOk (t : Tree) (ns : List Nat) : Prop := reg t ≤ ns.length ∧ ns.length ≤ 3 ∧ ∀ x ∈ ns, Letter x
theorem strOut {x y : Str} {t : Tok} (h : x = y) : ∃ tk, Value.str x t = .str y tk := ⟨t, by rw [h]⟩
inductive PRel (news : List (Addr × Obj)) : List Value → Tree × List Nat → Prop
  | mk {v : Value} {t : Tree} {ns : List Nat} {tk : Tok} : TreeIn news v t → PRel news [v, .str ⟨ns.toArray⟩ tk] (t, ns)

section Prog
variable {w : World} {p : Program} {loose : List Str} {mean : ExcName → Option Value} {mg mb : Str → Option Value}
noncomputable abbrev progT : ToldN (Tree × List Nat) where
  Rel := PRel
  Ok := fun d => d.1.Fine ∧ d.1.size ≤ 11 ∧ NamesOk d.1 d.2
  size := fun d => d.1.size + 40
  Tl := fun tl => tl = []
  Out := fun _ r d => ∃ tk, r = .str (textOf (compile d.1 d.2)) tk
local macro_rules | `(tactic| ktr_rel) => `(tactic| first | exact ⟨_, rfl, by assumption⟩ | exact PRel.mk (by assumption)  | exact ⟨_, rfl⟩ | exact rfl | exact trivial | assumption)
local macro_rules | `(tactic| walk_at "call ref") => `(tactic| first | ktn_call (Str.ofString "_law_strips") stripsT | ktn_call (Str.ofString "_law_program") progT)
local macro_rules | `(tactic| ktr_unf) => `(tactic| (try simp only [stripsT, progT, Tree.size] at *))
local macro_rules | `(tactic| walk_at "TXEQ") => `(tactic| first | exact lit_eq | exact lit_comma | exact opStr_tx _ | exact rfl)
local macro_rules | `(tactic| walk_at "TXLEN") => `(tactic| ((try simp only [List.length_append, List.length_cons, List.length_nil]); omega))
local macro_rules | `(tactic| walk_at "binaryOp Add str str") => `(tactic| (refine r_add (by walk_at "TXEQ") (by walk_at "TXEQ") (by walk_at "TXLEN") ?_; intro _ _))
local macro_rules | `(tactic| walk_at "subscriptTail Name Constant str int") => `(tactic| (refine r_item (by walk_at "TXEQ") (by decide) rfl (by walk_at "TXLEN") ?_))
local macro_rules | `(tactic| walk_at "subscriptTail Name Slice str ref") => `(tactic| ((rename Fr _ _ _ _ => F'); (rename News _ _ _ _ => N'); first | (refine r_from1 (s := ⟨_, _, _, _, _⟩) F' N' (by walk_at "TXEQ") (by walk_at "TXLEN") ?_; intro _ _ _ _ _) | (refine r_from2 (s := ⟨_, _, _, _, _⟩) F' N' (by walk_at "TXEQ") (by walk_at "TXLEN") ?_; intro _ _ _ _ _)))
local macro_rules | `(tactic| walk_at "call builtin:str.upper") => `(tactic| (refine r_upper (by walk_at "TXEQ") (by assumption) ?_))
local macro_rules | `(tactic| walk_at "call type:str") => `(tactic| (refine r_digit (by assumption) (by assumption) ?_))
theorem prog_tells : ∀ d, TellsN PySem.Challenge.rw_we0032_01.row.prog w (kmake.heap_1 w.params) p loose mean mg mb 274 progT d := by
  w_top off
  have C := @strips_tells w p loose mean mg mb
  refine tellsN_of fun d IH => ?_
  unfold TellsN
  intro dp un gd cn cs a ccd cl outer A₀ base h₀ L m news s vs Q E B F X N T hk hR hok hd hu hret
  obtain ⟨hf, hz, hn⟩ := hok
  cases hR
  case mk v t ns ntk hR =>
  dsimp only at hf hz hn
  cases hR
  case leaf i tk n hm =>
    obtain ⟨hr, hl, hx⟩ := hn
    obtain ⟨i0, i9⟩ := hf
    match ns, hr, hl, hx with
    | x :: r, _, hl, hx =>
      have hlx : x = 97 ∨ x = 98 ∨ x = 99 := hx x (.head _)
      simp only [List.length_cons] at hl
      refine wpAny_call ?_
      k_dflt ktr_enter
      k_steps
      (rename News _ _ _ _ => hN)
      exact hret _ [] _ _ (by k_asm) (newsOf hN lNil) ktn_ord0 rfl (strOut (by simp [textOf, compile, codesOf, Stm.codes]))
  case node o tk v1 v2 t1 t2 n hm h1 h2 =>
    obtain ⟨hr, hl, hx⟩ := hn
    obtain ⟨f1, f2⟩ := hf
    have p1 := reg_pos t1
    have p2 := reg_pos t2
    have hr' : reg t1 ≤ ns.length ∧ reg t2 ≤ ns.length ∧ 2 ≤ ns.length ∧ (reg t1 = reg t2 → reg t1 + 1 ≤ ns.length) := by
      unfold reg at hr
      split at hr <;> omega
    have hz1 : t1.size ≤ 11 := by simp only [Tree.size] at hz; omega
    have hz2 : t2.size ≤ 11 := by simp only [Tree.size] at hz; omega
    match ns, hr', hl, hx with
    | x :: y :: r, hr', hl, hx =>
      simp only [List.length_cons] at hl hr'
      have lx : Letter x := hx x (.head _)
      have ly : Letter y := hx y (.tail _ (.head _))
      have lr : ∀ z ∈ r, Letter z := fun z hz => hx z (.tail _ (.tail _ hz))
      by_cases hc : reg t2 ≤ reg t1
      · have ok1 : t1.Fine ∧ t1.size ≤ 11 ∧ NamesOk t1 (x :: y :: r) := ⟨f1, hz1, by simp only [List.length_cons]; omega, by simp only [List.length_cons]; omega, hx⟩
        have ok2 : t2.Fine ∧ t2.size ≤ 11 ∧ NamesOk t2 (y :: r) := ⟨f2, hz2, by simp only [List.length_cons]; omega, by simp only [List.length_cons]; omega, fun z hz => hx z (.tail _ hz)⟩
        have b1 := codes_bound hz1 (x :: y :: r)
        have b2 := codes_bound hz2 (y :: r)
        refine wpAny_call ?_
        k_dflt ktr_enter
        k_steps
        (rename News _ _ _ _ => hN)
        exact hret _ [] _ _ (by k_asm) (newsOf hN lNil) ktn_ord0 rfl (strOut (by simp [textOf, compile, if_pos hc, codesOf_append, codesOf, Stm.codes]))
      · have ok2 : t2.Fine ∧ t2.size ≤ 11 ∧ NamesOk t2 ([y] ++ [x] ++ r) := ⟨f2, hz2, by simp only [List.length_append, List.length_cons, List.length_nil]; omega, by simp only [List.length_append, List.length_cons, List.length_nil]; omega, by simpa using ⟨ly, lx, lr⟩⟩
        have ok1 : t1.Fine ∧ t1.size ≤ 11 ∧ NamesOk t1 ([x] ++ r) := ⟨f1, hz1, by simp only [List.length_append, List.length_cons, List.length_nil]; omega, by simp only [List.length_append, List.length_cons, List.length_nil]; omega, by simpa using ⟨lx, lr⟩⟩
        have b2 := codes_bound hz2 (y :: x :: r)
        have b1 := codes_bound hz1 (x :: r)
        refine wpAny_call ?_
        k_dflt ktr_enter
        k_steps
        (rename News _ _ _ _ => hN)
        exact hret _ [] _ _ (by k_asm) (newsOf hN lNil) ktn_ord0 rfl (strOut (by simp [textOf, compile, if_neg hc, codesOf_append, codesOf, Stm.codes]))
end Prog
end Mine
end
section
open PySem PySem.W PyProof.Rows
namespace Mine
local macro_rules | `(tactic| k_mem) => `(tactic| first | exact List.mem_cons_self .. | (refine List.mem_cons_of_mem _ ?_; k_mem))
local macro_rules | `(tactic| ktn_lt) => `(tactic| first
  | exact allLt_left (by assumption) | exact allLt_left (And.right (by assumption)) | exact allLt_left (And.right (And.right (by assumption))) | exact allLt_left (And.right (And.right (And.right (by assumption))))
  | exact allLt_left (allLt_of (by assumption)) | exact allLt_of (by assumption)
  | exact And.right (by assumption) | exact And.right (And.right (by assumption)) | exact And.right (And.right (And.right (by assumption))))
theorem tab81 {prog : Program} {w : World} {h : Heap} (X : (kmake.heap_1 w.params).In h) : StrTab prog w h 81 tabD := by
  refine' strTab_of X ?h ?r ?a
  case h => k_is
  case r => (repeat (first | exact True.intro | refine And.intro ⟨_, _, rfl, rfl, rfl⟩ ?_))
  case a => decide
noncomputable def cut (l : List Nat) : Nat := if (look (l.take 3)).isSome then 3 else if (look (l.take 2)).isSome then 2 else 1
noncomputable def sym (l : List Nat) : Int := (look (l.take (cut l))).getD (256 + (l.headD 0 : Nat))
inductive Scans : List Nat → List Int → Prop
  | nil : Scans [] []
  | step {c : Nat} {l : List Nat} {r : List Int} : Scans ((c :: l).drop (cut (c :: l))) r → Scans (c :: l) (sym (c :: l) :: r)

theorem cut_pos (l : List Nat) : 1 ≤ cut l := by unfold cut; split <;> (try split) <;> decide
theorem cut3 {l : List Nat} (h : (look (l.take 3)).isSome = true) : cut l = 3 := by unfold cut; rw [if_pos h]
theorem cut2 {l : List Nat} (h3 : (look (l.take 3)).isSome = false) (h : (look (l.take 2)).isSome = true) : cut l = 2 := by unfold cut; rw [h3, if_neg Bool.false_ne_true, if_pos h]
theorem cut1 {l : List Nat} (h3 : (look (l.take 3)).isSome = false) (h : (look (l.take 2)).isSome = false) : cut l = 1 := by unfold cut; rw [h3, h, if_neg Bool.false_ne_true, if_neg Bool.false_ne_true]
theorem r_ne_empty {prog : Program} {w : World} {A : Around} {E : Value → Shared → Prop} {s : Shared} {x y : Str} {t u : Tok} {Q : Value → Shared → Prop} {l : List Nat} (hx : x = tx l) (hy : y = tx []) (h : Q (.bool (!l.isEmpty)) s) : wpAny (model prog w) A (compareOp .NotEq (.str x t) (.str y u)) Q E s := by
  subst hx hy
  refine ne_str ?_
  have e : (tx l == tx []) = l.isEmpty := by
    cases l with
    | nil => rfl
    | cons a r => rw [beq_eq_false_iff_ne.mpr (fun q => by have := congrArg Str.length q; rw [tx_length, tx_length] at this; cases this)]; rfl
  first | (rw [e]; exact h) | (simp only [bne, e]; exact h) | exact h

theorem r_ne_cons {prog : Program} {w : World} {A : Around} {E : Value → Shared → Prop} {s : Shared} {x y : Str} {t u : Tok} {Q : Value → Shared → Prop} {c : Nat} {l : List Nat} (hx : x = tx (c :: l)) (hy : y = tx []) (h : Q (.bool true) s) : wpAny (model prog w) A (compareOp .NotEq (.str x t) (.str y u)) Q E s := r_ne_empty hx hy h
theorem r_ne_nil {prog : Program} {w : World} {A : Around} {E : Value → Shared → Prop} {s : Shared} {x y : Str} {t u : Tok} {Q : Value → Shared → Prop} (hx : x = tx []) (hy : y = tx []) (h : Q (.bool false) s) : wpAny (model prog w) A (compareOp .NotEq (.str x t) (.str y u)) Q E s := r_ne_empty hx hy h

theorem mmT {a b : Str} {m : Str → Option Value} {va vb w1 w2 w3 : Option Value} : ∀ x, (if x = a then va else if x = b then vb else m x) = if x = a then va else if x = b then vb else if x = b then w1 else if x = a then w2 else if x = b then w3 else m x := by
  intro x
  by_cases h : x = a
  · rw [if_pos h, if_pos h]
  · by_cases h2 : x = b
    · rw [if_neg h, if_pos h2, if_neg h, if_pos h2]
    · simp only [if_neg h, if_neg h2]
theorem intsAre_push {its : Array Value} {got : List Int} {v : Int} {t : Tok} (h : IntsAre its.toList got) : IntsAre (its.push (.int v t)).toList (got ++ [v]) := by
  rw [Array.toList_push]
  exact h.append (.cons v t .nil)

section Symbols
variable {w : World} {p : Program} {loose : List Str} {mean : ExcName → Option Value} {mg mb : Str → Option Value}
noncomputable abbrev intList (vs : List Value) (n : Nat) : Obj := { cls := .type "list", data := .seq vs.toArray n }
inductive SymRel (news : List (Addr × Obj)) : List Value → List Nat × List Int → Prop
  | mk {l : List Nat} {r : List Int} {tk : Tok} : SymRel news [.str ⟨l.toArray⟩ tk] (l, r)
noncomputable abbrev symT : ToldN (List Nat × List Int) where
  Rel := SymRel
  Ok := fun d => d.1.length ≤ 100 ∧ Scans d.1 d.2
  size := fun _ => 20
  Tl := fun _ => True
  Out := fun news r d => ∃ a vs n, r = .ref a ∧ (a, intList vs n) ∈ news ∧ IntsAre vs (d.2 ++ [0])
local macro_rules | `(tactic| ktr_unf) => `(tactic| (try simp only [symT] at *))
local macro_rules | `(tactic| walk_at "TXEQ") => `(tactic| first | exact lit_empty | exact rfl)
local macro_rules | `(tactic| walk_at "TXLEN") => `(tactic| ((try simp only [List.length_append, List.length_cons, List.length_nil]); omega))
local macro_rules | `(tactic| walk_at "exec While Compare cons nil") => `(tactic| refine hold ?_)
local macro_rules | `(tactic| walk_at "exec While BoolOp cons nil") => `(tactic| refine hold ?_)
local macro_rules | `(tactic| walk_at "compareOp NotEq str str") => `(tactic| first | refine r_ne_cons (by walk_at "TXEQ") (by walk_at "TXEQ") ?_ | refine r_ne_nil (by walk_at "TXEQ") (by walk_at "TXEQ") ?_)
local macro_rules | `(tactic| walk_at "subscriptTail Name Constant str int") => `(tactic| (refine r_item (by walk_at "TXEQ") (by decide) rfl (by walk_at "TXLEN") ?_))
local macro_rules | `(tactic| walk_at "subscriptTail Name Slice str ref") => `(tactic| ((rename Fr _ _ _ _ => F'); (rename News _ _ _ _ => N'); first | (refine r_slice_to (s := ⟨_, _, _, _, _⟩) F' N' (by walk_at "TXEQ") (by first | decide | omega) (by walk_at "TXLEN") ?_; intro _ _ _ _ _) | (refine r_slice_from (s := ⟨_, _, _, _, _⟩) F' N' (by walk_at "TXEQ") (by first | decide | omega) (by walk_at "TXLEN") ?_; intro _ _ _ _ _)))
local macro_rules | `(tactic| walk_at "compareOp NotIn str ref") => `(tactic| refine r_notin (TabAt.keep (by assumption) (Fr.keep (by k_asm))) (by walk_at "TXEQ") ?_)
local macro_rules | `(tactic| walk_at "getMethod ref") => `(tactic| refine getMethod_strTab_get (TabAt.keep (by assumption) (Fr.keep (by k_asm))) ?_)
local macro_rules | `(tactic| walk_at "call builtin:dict.get") => `(tactic| (refine r_get (TabAt.keep (by assumption) (Fr.keep (by k_asm))) (by walk_at "TXEQ") ?_; intro _))
structure SymSt where
  rest : List Nat
  its : Array Value
  n : Nat
  got : List Int
  tk : Tok
  size : Option Value
structure SizeSt where
  k : Int
  tk : Tok
theorem sym_tells : ∀ d, TellsN PySem.Challenge.rw_we0032_01.row.prog w (kmake.heap_1 w.params) p loose mean mg mb 281 symT d := by
  w_top off
  intro d
  unfold TellsN
  intro dp un gd cn cs a ccd cl outer A₀ base h₀ L m news s vs Q E B F X N T hk hR hok hd hu hret
  cases hR
  case mk l r ttk =>
  obtain ⟨hl, hS⟩ := hok
  dsimp only at hl hS
  refine wpAny_call ?_
  k_dflt ktr_enter
  (rename Frag.In _ _ => hX)
  have hT := tab81 (prog := PySem.Challenge.rw_we0032_01.row.prog) hX
  k_steps
  unfold Hold
  (rename Fr _ _ _ _ => hF; rename News _ _ _ _ => hN)
  rename_i lf _ hl1 _
  refine while_st hF hN (σ := SymSt) (fun m st x => if x = Str.ofString "text" then some (.str (tx st.rest) st.tk) else if x = Str.ofString "size" then st.size else m x)
    (fun st => (lf, W.listOf st.its st.n) :: news) (fun st => st.rest.length)
    (fun st => ∃ r', Scans st.rest r' ∧ st.got ++ r' = r ∧ IntsAre st.its.toList st.got ∧ st.rest.length + st.got.length ≤ 100) ⟨l, #[], 0, [], ttk, none⟩ (em2 rfl rfl) lAll ⟨r, hS, rfl, .nil, by simpa using hl⟩ ?_
  clear hF hN
  rintro Wk ⟨rest, its, n, got, tk2, sz⟩ h₁ tk₁ hWk ⟨r', hS', hr, hI, hle⟩ hF hN
  dsimp only at hS' hr hI hle hF hN ⊢
  have hil := hI.length
  have hsz : its.size ≤ sizeLine := by rw [sizeLine_eq]; simp at hil; omega
  cases hS' with
  | nil =>
    k_steps
    (rename News _ _ _ _ => hN)
    refine hret _ [_] _ _ (by k_asm) (newsOf hN (lKeep (lSkip (lSkip lNil)))) (ktn_ord1 (by ktn_lt)) trivial ⟨_, _, _, rfl, ktn_new, ?_⟩
    have e : got = r := by simpa using hr
    subst e
    assumption
  | @step c rest r2 hS2 =>
    simp only [List.length_cons] at hle
    k_steps
    unfold Hold
    (rename Fr _ _ _ _ => hF; rename News _ _ _ _ => hN)
    refine while_ex hF hN (σ := SizeSt) (fun m st x => if x = Str.ofString "size" then some (.int st.k st.tk) else m x) (fun _ => (lf, W.listOf its n) :: news) (fun st => st.k.toNat)
      (fun st => st.k = 3 ∨ (st.k = 2 ∧ (look ((c :: rest).take 3)).isSome = false) ∨ (st.k = 1 ∧ (look ((c :: rest).take 3)).isSome = false ∧ (look ((c :: rest).take 2)).isSome = false))
      (fun st => st.k = (cut (c :: rest) : Nat)) ⟨3, _⟩ (em1 rfl) lAll (.inl rfl) ?_ ?_
    · clear hF hN
      rintro Wj Xj ⟨k, tk3⟩ h₂ tk₂ hWj hXj hk hF hN
      dsimp only at hk hF hN ⊢
      rcases hk with rfl | ⟨rfl, h3⟩ | ⟨rfl, h3, h2⟩
      · k_steps
        · (rename Fr _ _ _ _ => hF; rename News _ _ _ _ => hN)
          exact hXj.end hF hN ⟨3, _⟩ (fun _ => rfl) lAll (by rw [cut3 (by assumption)]; rfl)
        · (rename Fr _ _ _ _ => hF; rename News _ _ _ _ => hN)
          exact hWj.end hF hN ⟨2, _⟩ mm1 lAll (by show (2 : Int).toNat < (3 : Int).toNat; decide) (.inr (.inl ⟨rfl, by assumption⟩))
      · k_steps
        · (rename Fr _ _ _ _ => hF; rename News _ _ _ _ => hN)
          exact hXj.end hF hN ⟨2, _⟩ (fun _ => rfl) lAll (by rw [cut2 h3 (by assumption)]; rfl)
        · (rename Fr _ _ _ _ => hF; rename News _ _ _ _ => hN)
          exact hWj.end hF hN ⟨1, _⟩ mm1 lAll (by show (1 : Int).toNat < (2 : Int).toNat; decide) (.inr (.inr ⟨rfl, h3, by assumption⟩))
      · k_steps
        (rename Fr _ _ _ _ => hF; rename News _ _ _ _ => hN)
        exact hXj.end hF hN ⟨1, _⟩ (fun _ => rfl) lAll (by rw [cut1 h3 h2]; rfl)
    · clear hF hN
      rintro ⟨k, tk3⟩ h₂ tk₂ hk hF hN
      dsimp only at hk hF hN ⊢
      subst hk
      have hcp := cut_pos (c :: rest)
      k_steps
      (rename Fr _ _ _ _ => hF; rename News _ _ _ _ => hN)
      refine hWk.end hF hN ⟨(c :: rest).drop (cut (c :: rest)), its.push (.int (sym (c :: rest)) _), n + 1, got ++ [sym (c :: rest)], _, some (.int (cut (c :: rest) : Nat) _)⟩ mmT lAll ?_ ⟨r2, hS2, by simpa using hr, intsAre_push hI, ?_⟩
      · simp only [List.length_drop, List.length_cons]; omega
      · simp only [List.length_drop, List.length_cons, List.length_append, List.length_nil]; omega
end Symbols
end Mine
end
section
open PySem PySem.W PyProof.Rows
namespace Mine
/-! a for over a list of the ledger, by a state of our own -/
noncomputable def FTo {σ : Type} (Mp : σ → Str → Option Value) (Lg : σ → List (Addr × Obj)) (P : List Value → σ → Prop) (h₀ : Heap) (L : Addr) (s : Shared) (I : Addr) (it : Obj) (done : List Value) (W : Flow → Shared → Prop) : Prop :=
  ∀ h' tk st', Fr h₀ L h' (Mp st') → News h₀ L h' ((I, it) :: Lg st') → (∀ p ∈ Lg st', p.1 ≠ I) → P done st' → W .next { s with heap := h', toks := tk }
theorem FTo.end {σ : Type} {Mp : σ → Str → Option Value} {Lg : σ → List (Addr × Obj)} {P : List Value → σ → Prop} {h₀ h' : Heap} {L : Addr} {s : Shared} {I : Addr} {it : Obj} {done : List Value} {W : Flow → Shared → Prop} {tk : Nat} {m : Str → Option Value} {l : List (Addr × Obj)}
    (T : FTo Mp Lg P h₀ L s I it done W) (F : Fr h₀ L h' m) (N : News h₀ L h' l) (st' : σ) (em : ∀ x, Mp st' x = m x) (S : ∀ p ∈ (I, it) :: Lg st', p ∈ l) (ho : ∀ p ∈ Lg st', p.1 ≠ I) (hP : P done st') : W .next { s with heap := h', toks := tk } :=
  T h' tk st' (Fr.congr F em) (newsOf N S) ho hP
/-- the end of a turn, told -/
noncomputable def FEnd {σ : Type} (Mp : σ → Str → Option Value) (Lg : σ → List (Addr × Obj)) (P : List Value → σ → Prop) (h₀ : Heap) (L : Addr) (s : Shared) (I : Addr) (it : Obj) (done : List Value) (f : Flow) (s₃ : Shared) : Prop :=
  f = .next ∧ ∃ h' tk st', s₃ = { s with heap := h', toks := tk } ∧ Fr h₀ L h' (Mp st') ∧ News h₀ L h' ((I, it) :: Lg st') ∧ (∀ p ∈ Lg st', p.1 ≠ I) ∧ P done st'
theorem FEnd.to {σ : Type} {Mp : σ → Str → Option Value} {Lg : σ → List (Addr × Obj)} {P : List Value → σ → Prop} {h₀ : Heap} {L : Addr} {s : Shared} {I : Addr} {it : Obj} {done : List Value} : FTo Mp Lg P h₀ L s I it done (FEnd Mp Lg P h₀ L s I it done) :=
  fun h' tk st' a b c d => ⟨rfl, h', tk, st', rfl, a, b, c, d⟩
theorem for_rest {prog : Program} {w : World} {A : Around} {E : Value → Shared → Prop} {Q : Flow → Shared → Prop} {s : Shared} {env : Env} {h₀ : Heap} {target : Expr} {body : List Stmt}
    {l I : Addr} {lo : Obj} {vs : List Value} {σ : Type} (Mp : σ → Str → Option Value) (Lg : σ → List (Addr × Obj)) (P : List Value → σ → Prop)
    (hLg : ∀ st done, P done st → (l, lo) ∈ Lg st)
    (turn : ∀ W I it done v rest st h tk, vs = done ++ v :: rest → FTo Mp Lg P h₀ env.locals { s with heap := h, toks := tk } I it (done ++ [v]) W → P done st → (∀ p ∈ Lg st, p.1 ≠ I) → Fr h₀ env.locals h (Mp st) → News h₀ env.locals h ((I, it) :: Lg st) →
      wpAny (model prog w) A (assign target env v) (fun _ s₂ => wpAny (model prog w) A (execs body env) W E s₂) E { s with heap := h, toks := tk })
    (fin : ∀ st h tk, P vs st → Fr h₀ env.locals h (Mp st) → News h₀ env.locals h (Lg st) → Q .next { s with heap := h, toks := tk }) :
    ∀ (rest done : List Value) (st : σ), vs = done ++ rest → P done st → (∀ p ∈ Lg st, p.1 ≠ I) → ItemsRest prog w A E h₀ env target body Q s [(I, "list_iterator")] [(l, lo)] (rest.map .val) (Mp st) (Lg st)
  | [], done, st, e, hP, _ => by
    rw [List.append_nil] at e
    subst e
    exact ItemsRest.zero fun h tk F N => fin st h tk hP F N
  | v :: rest, done, st, e, hP, ho => by
    refine ItemsRest.val fun h tk F => AllObj.cons fun it _ => AllObj.nil fun N => ?_
    refine wpAny_mono (turn _ I it done v rest st h tk e FEnd.to hP ho F N) (fun _ s₂ h₂ => wpAny_mono h₂ (fun f s₃ q => ?_) fun _ _ x => x) fun _ _ x => x
    obtain ⟨rfl, h', tk', st', rfl, F', N', ho', hP'⟩ := q
    refine ⟨h', tk', Mp st', Lg st', rfl, F', N', fun p hp q hq => ?_, ⟨hLg st' _ hP', trivial⟩, for_rest Mp Lg P hLg turn fin rest (done ++ [v]) st' (by rw [e, List.append_assoc]; rfl) hP' ho'⟩
    rw [List.mem_singleton.mp hq]
    exact ho' p hp
theorem for_st {prog : Program} {w : World} {A : Around} {E : Value → Shared → Prop} {Q : Flow → Shared → Prop} {s : Shared} {env : Env} {h₀ : Heap} {target iter : Expr} {body : List Stmt} {pos : Pos} {m : Str → Option Value} {news : List (Addr × Obj)}
    {l : Addr} {n : Nat} {vs : List Value} (hh : A.handled = none) (F : Fr h₀ env.locals s.heap m) (N : News h₀ env.locals s.heap news)
    (hev : wpAny (model prog w) A (eval iter env) (fun v s' => v = .ref l ∧ s' = s) E s)
    {σ : Type} (Mp : (Str → Option Value) → σ → Str → Option Value) (Lg : σ → List (Addr × Obj)) (P : List Value → σ → Prop) (st₀ : σ)
    (em : ∀ x, Mp m st₀ x = m x) (S : ∀ p ∈ Lg st₀, p ∈ news) (hP : P [] st₀)
    (hLg : ∀ st done, P done st → (l, listOf vs.toArray n) ∈ Lg st)
    (turn : ∀ W I it done v rest st h tk, vs = done ++ v :: rest → FTo (Mp m) Lg P h₀ env.locals { s with heap := h, toks := tk } I it (done ++ [v]) W → P done st → (∀ p ∈ Lg st, p.1 ≠ I) → Fr h₀ env.locals h (Mp m st) → News h₀ env.locals h ((I, it) :: Lg st) →
      wpAny (model prog w) A (assign target env v) (fun _ s₂ => wpAny (model prog w) A (execs body env) W E s₂) E { s with heap := h, toks := tk })
    (fin : ∀ st h tk, P vs st → Fr h₀ env.locals h (Mp m st) → News h₀ env.locals h (Lg st) → Q .next { s with heap := h, toks := tk })
    (hs : ∀ x, foldedSetIterable iter env x = pure x := by intro _; rfl)
    (hE : PassesOwn (model prog w) A env E := by passes_own) :
    wpAny (model prog w) A (exec (.For target iter body [] pos) env) Q E s := by
  refine For_turns F (wpAny_mono hev (fun v s₁ ⟨e1, e2⟩ => ?_) fun _ _ x => x) hs hE
  subst e1
  subst e2
  refine iter_listTurns hh (Fr.congr F em) (newsOf N S) (hLg st₀ [] hP) rfl rfl fun I hI => ?_
  exact for_rest (Mp m) Lg P hLg turn fin vs [] st₀ rfl hP fun p hp => Nat.ne_of_lt (hI p hp)
section
variable {prog : Program} {w : World} {A : Around} {E : Value → Shared → Prop} {s : Shared} {h₀ : Heap} {L P : Addr} {news : List (Addr × Obj)} {its : Array Value} {n k : Nat} {t u : Tok} {Q : Value → Shared → Prop}
theorem r_len (N : News h₀ L s.heap news) (hm : (P, listOf its n) ∈ news) (hk : its.size = k) (hz : k ≤ 1000) (h : ∀ t tk, Q (.int (k : Int) t) { s with toks := tk }) : wpAny (model prog w) A (call (.builtin "len") [.ref P]) Q E s :=
  len_list (N.isList hm) (by omega) (by rw [hk]; exact h _ _)
theorem r_pow2 (hz : k ≤ 1000) (h : Q (.int ((2 ^ k : Nat) : Int) s.toks) { s with toks := s.toks + 1 }) : wpAny (model prog w) A (binaryOp .Pow (.int 2 t) (.int (k : Int) u)) Q E s := by
  refine pow_int_small (by omega) (by omega) (by decide) ?_
  have e : (2 : Int) ^ (k : Int).toNat = ((2 ^ k : Nat) : Int) := by rw [Int.toNat_natCast]; push_cast; rfl
  rw [e]; exact h
theorem r_last {value slice : Expr} {x : Value} (N : News h₀ L s.heap news) (hm : (P, listOf (its.push x) n) ∈ news) (h : Q x s)
    (hs : subscripted slice false (.ref P) (.int (-1) u) = operate [.ref P, .int (-1) u] (getItem (.ref P) (.int (-1) u)) := by with_unfolding_all rfl) :
    wpAny (model prog w) A (subscriptTail value slice (.ref P) (.int (-1) u)) Q E s :=
  tail_any (N.isList hm).typeIs slot_list_getitem.lookup (wpAny_getItem_list_neg (N.isList hm) (by decide) (by rw [Array.size_push]; omega) (by decide) (by
    have : ((-1 : Int) + ((its.push x).size : Nat)).toNat = its.size := by rw [Array.size_push]; omega
    rw [this]; simp) h) hs
end
theorem join_st {prog : Program} {w : World} {A : Around} {E : Value → Shared → Prop} {Q : Flow → Shared → Prop} {s₁ : Shared} {h₀ : Heap} {L : Addr} {m : Str → Option Value} {t : Sem Flow} {σ : Type} (Mp : (Str → Option Value) → σ → Str → Option Value) (Lg : σ → List (Addr × Obj)) (R : σ → Prop) (st₀ : σ)
    (F : Fr h₀ L s₁.heap (Mp m st₀)) (s : Shared) (h1 : ∀ W : Flow → Shared → Prop, XTo (Mp m) Lg R h₀ L s (W .next) → wpAny (model prog w) A t W E s₁)
    (h2 : ∀ st h tk, R st → Fr h₀ L h (Mp m st) → News h₀ L h (Lg st) → Q .next { s with heap := h, toks := tk }) : wpAny (model prog w) A t Q E s₁ :=
  h1 Q fun h' tk st' F' N' r => h2 st' h' tk r F' N'
end Mine
end
section
open PySem PySem.W PyProof.Rows
namespace Mine
inductive Sh where
  | leaf
  | node (l r : Sh)
noncomputable def Sh.size : Sh → Nat
  | .leaf => 1
  | .node l r => l.size + r.size + 1
noncomputable def Tree.sh : Tree → Sh
  | .leaf _ => .leaf
  | .node _ l r => .node l.sh r.sh
theorem Tree.sh_size : ∀ t : Tree, t.sh.size = t.size
  | .leaf _ => rfl
  | .node _ l r => by simp only [Tree.sh, Sh.size, Tree.size, l.sh_size, r.sh_size]
noncomputable def pl : Sh → Nat → List (Nat × Nat)
  | .leaf, k => [(2 ^ k, 0)]
  | .node l r, k => pl l k ++ pl r (k + l.size) ++ [(2 ^ (k + l.size + r.size), 2 ^ (k + l.size - 1) + 2 ^ (k + l.size + r.size - 1))]
theorem pl_length : ∀ (s : Sh) (k : Nat), (pl s k).length = s.size
  | .leaf, _ => rfl
  | .node l r, k => by simp only [pl, List.length_append, pl_length l, pl_length r, List.length_cons, List.length_nil, Sh.size]
theorem Sh.pos : ∀ s : Sh, 1 ≤ s.size
  | .leaf => Nat.le_refl _
  | .node _ _ => by simp only [Sh.size]; omega
structure Srch where
  live : List (Nat × Int)
  waiting : List Nat
  later : List Nat
  room : Int
noncomputable def getI (k : Nat) (l : List (Nat × Int)) : Option Int := (l.find? fun p => Nat.beq p.1 k).map (·.2)
noncomputable def upOf (b : Nat) : Int := if Nat.beq b 0 = true then 1 else -1
noncomputable def step1 (d : Nat) (c : Int) (s : Srch) (p : Nat × Nat) : Srch :=
  if Nat.beq (d &&& p.1) 0 = true then
    if Nat.beq (d &&& p.2) p.2 = true then
      match getI (d + p.1) s.live with
      | some _ => s
      | none =>
        if c + upOf p.2 ≤ s.room then ⟨s.live ++ [(d + p.1, c + upOf p.2)], s.waiting ++ [d + p.1], s.later, s.room⟩
        else ⟨s.live ++ [(d + p.1, c + upOf p.2)], s.waiting, s.later ++ [d + p.1], s.room⟩
    else s
  else s
noncomputable def refill (s : Srch) : Srch := match s.waiting with
  | [] => ⟨s.live, s.later, [], s.room + 1⟩
  | _ :: _ => s
noncomputable def turnS (ps : List (Nat × Nat)) (s : Srch) : Option Srch :=
  match (refill s).waiting with
  | [] => none
  | x :: r =>
    match getI ((x :: r).getLastD 0) (refill s).live with
    | none => none
    | some c => some (ps.foldl (step1 ((x :: r).getLastD 0) c) ⟨(refill s).live, (x :: r).dropLast, (refill s).later, (refill s).room⟩)
noncomputable def RunsN (full : Nat) (ps : List (Nat × Nat)) : Nat → Srch → Int → Prop
  | 0, s, r => (getI full s.live).isSome = true ∧ s.room = r
  | k + 1, s, r => (getI full s.live).isSome = false ∧ ∃ s', turnS ps s = some s' ∧ RunsN full ps k s' r
noncomputable def runN (full : Nat) (ps : List (Nat × Nat)) : Nat → Srch → Option (Nat × Int)
  | 0, s => match getI full s.live with
    | some _ => some (0, s.room)
    | none => none
  | k + 1, s => match getI full s.live with
    | some _ => some (0, s.room)
    | none => match turnS ps s with
      | none => none
      | some s' => match runN full ps k s' with
        | none => none
        | some (j, r) => some (j + 1, r)
theorem runs_of {full : Nat} {ps : List (Nat × Nat)} : ∀ {k : Nat} {s : Srch} {j : Nat} {r : Int}, runN full ps k s = some (j, r) → RunsN full ps j s r ∧ j ≤ k
  | 0, s, j, r, h => by
    unfold runN at h
    cases e : getI full s.live with
    | none => rw [e] at h; cases h
    | some _ => rw [e] at h; cases h; exact ⟨⟨by rw [e]; rfl, rfl⟩, Nat.le_refl _⟩
  | k + 1, s, j, r, h => by
    unfold runN at h
    cases e : getI full s.live with
    | some _ => rw [e] at h; cases h; exact ⟨⟨by rw [e]; rfl, rfl⟩, Nat.zero_le _⟩
    | none =>
      rw [e] at h
      cases e2 : turnS ps s with
      | none => rw [e2] at h; cases h
      | some s' =>
        rw [e2] at h
        dsimp only at h
        cases e3 : runN full ps k s' with
        | none => rw [e3] at h; cases h
        | some q =>
          rw [e3] at h
          obtain ⟨j', r'⟩ := q
          cases h
          have := runs_of e3
          exact ⟨⟨by rw [e]; rfl, s', e2, this.1⟩, Nat.succ_le_succ this.2⟩
noncomputable def start : Srch := ⟨[(0, 0)], [0], [], 1⟩
noncomputable def W (s : Srch) : Nat := s.live.length + s.waiting.length + s.later.length
theorem W_step (d : Nat) (c : Int) (s : Srch) (p : Nat × Nat) : W (step1 d c s p) ≤ W s + 2 := by
  unfold step1 W
  split
  · split
    · split
      · omega
      · split <;> simp only [List.length_append, List.length_cons, List.length_nil] <;> omega
    · omega
  · omega
theorem W_fold (d : Nat) (c : Int) : ∀ (ps : List (Nat × Nat)) (s : Srch), W (ps.foldl (step1 d c) s) ≤ W s + 2 * ps.length
  | [], _ => Nat.le_refl _
  | p :: r, s => by
    have h1 := W_fold d c r (step1 d c s p)
    have h2 := W_step d c s p
    rw [List.foldl_cons, List.length_cons]
    omega
theorem getI_append {k : Nat} {l : List (Nat × Int)} {c : Int} (h : getI k l = some c) (q : Nat × Int) : getI k (l ++ [q]) = some c := by
  unfold getI at *
  rw [List.find?_append]
  cases e : l.find? (fun p => Nat.beq p.1 k) with
  | none => rw [e] at h; cases h
  | some x => rw [e] at h; exact h
theorem getI_new {k : Nat} {l : List (Nat × Int)} {v : Int} (h : getI k l = none) : getI k (l ++ [(k, v)]) = some v := by
  unfold getI at *
  rw [List.find?_append]
  cases e : l.find? (fun p => Nat.beq p.1 k) with
  | some x => rw [e] at h; cases h
  | none => simp
theorem step_keeps {d : Nat} {c : Int} {s : Srch} {p : Nat × Nat} (h : getI d s.live = some c) : getI d (step1 d c s p).live = some c := by
  unfold step1
  split
  · split
    · split
      · exact h
      · split <;> exact getI_append h _
    · exact h
  · exact h
/-! the dict -/
noncomputable def toD (l : List (Nat × Int)) : List (PyData × PyData) := l.map fun p => (.int (p.1 : Int), .int p.2)
theorem lookup_toD (k : Nat) (l : List (Nat × Int)) : Spec.lookup (.int (k : Int)) (toD l) = (getI k l).map .int := by
  unfold toD getI
  induction l with
  | nil => rfl
  | cons p r ih =>
    simp only [List.map_cons, Spec.lookup]
    rw [PyProof.V.same_int, List.find?_cons]
    have e : decide ((p.1 : Int) = (k : Int)) = Nat.beq p.1 k := by
      by_cases h : p.1 = k
      · subst h; simp
      · have hb : Nat.beq p.1 k = false := by
          cases q : Nat.beq p.1 k with
          | false => rfl
          | true => exact absurd (Nat.eq_of_beq_eq_true q) h
        rw [hb]; exact decide_eq_false (fun q => h (by exact_mod_cast q))
    rw [e]
    cases h : Nat.beq p.1 k with
    | true => simp
    | false => simpa using ih
noncomputable def LiveAt (prog : Program) (w : World) (o : Obj) (live : List (Nat × Int)) : Prop := ∃ kvs, o.IsDictOf (intKind prog w) kvs ∧ PyProof.V.FlatPairs PyData.int kvs (toD live)
section
variable {prog : Program} {w : World} {A : Around} {E : Value → Shared → Prop} {s : Shared} {h₀ : Heap} {L d : Addr} {m : Str → Option Value} {news : List (Addr × Obj)} {o : Obj} {live : List (Nat × Int)} {i v : Int} {k : Nat} {t u : Tok} {Q : Value → Shared → Prop}
theorem live_tab (N : News h₀ L s.heap news) (hm : (d, o) ∈ news) (lo : (d == sysModules) = false) (hl : LiveAt prog w o live) : IntTab prog w s.heap d (toD live) :=
  let ⟨_, hd, hf⟩ := hl; TabAt.ofNews N hm lo hd hf
theorem r_dnotin (N : News h₀ L s.heap news) (hm : (d, o) ∈ news) (lo : (d == sysModules) = false) (hl : LiveAt prog w o live) (hk : i = (k : Int)) (h : Q (.bool (!(getI k live).isSome)) { s with toks := s.toks + 1 }) :
    wpAny (model prog w) A (compareOp .NotIn (.int i t) (.ref d)) Q E s := by
  subst hk
  refine notin_intTab (live_tab N hm lo hl) ?_
  rw [lookup_toD, Option.isSome_map]; exact h
theorem r_dget {value slice : Expr} (N : News h₀ L s.heap news) (hm : (d, o) ∈ news) (lo : (d == sysModules) = false) (hl : LiveAt prog w o live) (hk : i = (k : Int)) (hg : getI k live = some v) (h : ∀ t, Q (.int v t) { s with toks := s.toks + 1 })
    (hs : subscripted slice false (.ref d) (.int i t) = operate [.ref d, .int i t] (getItem (.ref d) (.int i t)) := by with_unfolding_all rfl) (ht : ∀ r, letTemporaryGo value (.ref d) r = pure () := by intro _; with_unfolding_all rfl) :
    wpAny (model prog w) A (subscriptTail value slice (.ref d) (.int i t)) Q E s := by
  subst hk
  refine item_intTab (live_tab N hm lo hl) (by rw [lookup_toD, hg]; rfl) (fun x hx => ?_) hs ht
  obtain ⟨t, rfl⟩ := PyProof.V.Flat.int_inv hx
  exact h t
theorem r_dset {g : Obj → List (Addr × Obj)} {Q : Unit → Shared → Prop} (F : Fr h₀ L s.heap m) (N : News h₀ L s.heap news) (U : UpdF d o news g) (hl : LiveAt prog w o live) (hk : i = (k : Int)) (hg : getI k live = none) (hz : live.length ≤ 100000)
    (h : ∀ h' o' tk, Fr h₀ L h' m → News h₀ L h' (g o') → LiveAt prog w o' (live ++ [(k, v)]) → Q () { s with heap := h', toks := tk }) : wpAny (model prog w) A (setItem (.ref d) (.int i t) (.int v u)) Q E s := by
  subst hk
  obtain ⟨kvs, hd, hf⟩ := hl
  refine setItem_K PyProof.V.same_int (intKind_is prog w (k : Int) t) (PyProof.V.Flat.int v u) F N U hd hf (fun h' o' F' N' hd' hf' => h h' o' _ F' N' ⟨_, hd', ?_⟩) (by rw [sizeLine_eq]; simp only [toD, List.length_map]; omega)
  rw [putD_absent (by rw [lookup_toD, hg]; rfl)] at hf'
  simpa [toD] using hf'
theorem r_and {a b : Nat} (h : Q (.int ((a &&& b : Nat) : Int) s.toks) { s with toks := s.toks + 1 }) : wpAny (model prog w) A (binaryOp .BitAnd (.int (a : Int) t) (.int (b : Int) u)) Q E s := by
  refine and_int ?_
  rw [bitAnd_pp (Int.natCast_nonneg a) (Int.natCast_nonneg b), Int.toNat_natCast, Int.toNat_natCast]; exact h
theorem r_append {us : List Value} {n : Nat} {x : Value} {news' : List (Addr × Obj)} (F : Fr h₀ L s.heap m) (N : News h₀ L s.heap news) (U : Upd d (listOf us.toArray n) (listOf (us ++ [x]).toArray (n + 1)) news news')
    (hz : us.length ≤ 100000) (h : ∀ h', Fr h₀ L h' m → News h₀ L h' news' → Q .none { s with heap := h' }) : wpAny (model prog w) A (call (.builtin "list.append") [.ref d, x]) Q E s :=
  append_K (its := us.toArray) F N (by rw [List.push_toArray]; exact U) h (by rw [sizeLine_eq, List.size_toArray]; omega)
end
section
variable {prog : Program} {w : World} {A : Around} {E : Value → Shared → Prop} {s : Shared} {h₀ : Heap} {L a b : Addr} {m : Str → Option Value} {news news' : List (Addr × Obj)} {us : List Value} {n k : Nat} {Q : Value → Shared → Prop}
noncomputable abbrev nats (l : List Nat) : List Int := l.map fun x : Nat => (x : Int)
theorem nats_last : ∀ l : List Nat, (nats l).getLastD 0 = ((l.getLastD 0 : Nat) : Int)
  | [] => rfl
  | [_] => rfl
  | _ :: y :: r => by
    have := nats_last (y :: r)
    simpa [nats, List.getLastD] using this
theorem nats_dropLast (l : List Nat) : (nats l).dropLast = nats l.dropLast := by simp [nats, List.map_dropLast]
theorem r_eqnil_t (N : News h₀ L s.heap news) (hm : (a, listOf us.toArray n) ∈ news) (hi : IntsAre us (nats [])) (hm2 : (b, listOf #[] k) ∈ news) (hu : A.units + 64 < cLine) (h : Q (.bool true) s) : wpAny (model prog w) A (compareOp .Eq (.ref a) (.ref b)) Q E s :=
  ke_eq_ints (N.isList hm) (N.isList (items := ([] : List Value).toArray) hm2) hi .nil hu h
theorem r_eqnil_f {x : Nat} {r : List Nat} (N : News h₀ L s.heap news) (hm : (a, listOf us.toArray n) ∈ news) (hi : IntsAre us (nats (x :: r))) (hm2 : (b, listOf #[] k) ∈ news) (hu : A.units + 64 < cLine) (h : Q (.bool false) s) : wpAny (model prog w) A (compareOp .Eq (.ref a) (.ref b)) Q E s :=
  ke_eq_ints (N.isList hm) (N.isList (items := ([] : List Value).toArray) hm2) hi .nil hu h
theorem r_pop {l : List Nat} (F : Fr h₀ L s.heap m) (N : News h₀ L s.heap news) (U : Upd a (listOf us.toArray n) (listOf us.dropLast.toArray (n + 1)) news news') (hi : IntsAre us (nats l)) (hne : 0 < l.length) (hz : l.length ≤ 100000)
    (h : ∀ h' t, Fr h₀ L h' m → News h₀ L h' news' → IntsAre us.dropLast (nats l.dropLast) → Q (.int ((l.getLastD 0 : Nat) : Int) t) { s with heap := h' }) : wpAny (model prog w) A (call (.builtin "list.pop") [.ref a]) Q E s := by
  have hl := hi.length
  simp only [nats, List.length_map] at hl
  refine kpa_pop F N U hi (by omega) (by rw [sizeLine_eq]; omega) fun h' t F' N' hi' => ?_
  rw [nats_last]
  exact h h' t F' N' (by rw [← nats_dropLast]; exact hi')
end
end Mine
end
section
open PySem PySem.W PyProof.Rows
namespace Mine
local macro_rules | `(tactic| k_mem) => `(tactic| first | exact List.mem_cons_self .. | (refine List.mem_cons_of_mem _ ?_; k_mem))
local macro_rules | `(tactic| ktn_lt) => `(tactic| first
  | exact allLt_left (by assumption) | exact allLt_left (And.right (by assumption)) | exact allLt_left (And.right (And.right (by assumption))) | exact allLt_left (And.right (And.right (And.right (by assumption))))
  | exact allLt_left (allLt_of (by assumption)) | exact allLt_of (by assumption)
  | exact And.right (by assumption) | exact And.right (And.right (by assumption)) | exact And.right (And.right (And.right (by assumption))))
inductive PartsIn (news : List (Addr × Obj)) : List Value → List (Nat × Nat) → Prop
  | nil : PartsIn news [] []
  | cons {a : Addr} {b w : Nat} {t1 t2 : Tok} {n : Nat} {vs : List Value} {ps : List (Nat × Nat)} : (a, ({ cls := .type "tuple", data := .seq #[.int (b : Int) t1, .int (w : Int) t2] n } : Obj)) ∈ news → PartsIn news vs ps → PartsIn news (.ref a :: vs) ((b, w) :: ps)
theorem PartsIn.length {news : List (Addr × Obj)} {vs : List Value} {ps : List (Nat × Nat)} (h : PartsIn news vs ps) : vs.length = ps.length := by
  induction h with
  | nil => rfl
  | cons _ _ ih => simp [ih]
theorem PartsIn.mono {news news' : List (Addr × Obj)} {vs : List Value} {ps : List (Nat × Nat)} (h : PartsIn news vs ps) (hs : ∀ p ∈ news, p ∈ news') : PartsIn news' vs ps := by
  induction h with
  | nil => exact .nil
  | cons hm _ ih => exact .cons (hs _ hm) ih
theorem PartsIn.snoc {news : List (Addr × Obj)} {vs : List Value} {ps : List (Nat × Nat)} {a : Addr} {b w : Nat} {t1 t2 : Tok} {n : Nat} (h : PartsIn news vs ps) (hm : (a, ({ cls := .type "tuple", data := .seq #[.int (b : Int) t1, .int (w : Int) t2] n } : Obj)) ∈ news) : PartsIn news (vs ++ [.ref a]) (ps ++ [(b, w)]) := by
  induction h with
  | nil => exact .cons hm .nil
  | cons hm' _ ih => exact .cons hm' ih

theorem lP1 {q r : Addr × Obj} {news : List (Addr × Obj)} : ∀ p ∈ r :: (news ++ [q]), p ∈ q :: r :: news := fun p hp => by
  rcases List.mem_cons.mp hp with rfl | hp
  · exact .tail _ (.head _)
  · rcases List.mem_append.mp hp with hp | hp
    · exact .tail _ (.tail _ hp)
    · rw [List.mem_singleton.mp hp]; exact .head _
theorem parts_end {news : List (Addr × Obj)} {vs : List Value} {l r : Sh} {k : Nat} {ps : List (Nat × Nat)} {a : Addr} {t1 t2 : Tok} {n : Nat} {sl sr : Nat} (hk : k = ps.length) (hl : l.size = sl) (hr : r.size = sr) (h : PartsIn news vs ((ps ++ pl l k) ++ pl r (ps ++ pl l k).length))
    (hm : (a, ({ cls := .type "tuple", data := .seq #[.int ((2 ^ (k + sl + sr) : Nat) : Int) t1, .int (((2 ^ (k + sl - 1) : Nat) : Int) + ((2 ^ ((ps ++ pl l k).length + sr - 1) : Nat) : Int)) t2] n } : Obj)) ∈ news) : PartsIn news (vs ++ [.ref a]) (ps ++ pl (.node l r) k) := by
  subst hl hr
  have e : (ps ++ pl l k).length = k + l.size := by rw [List.length_append, pl_length, hk]
  rw [e] at h hm
  rw [← Int.natCast_add] at hm
  have := h.snoc hm
  simpa [pl, List.append_assoc] using this
section Parts
variable {w : World} {p : Program} {loose : List Str} {mean : ExcName → Option Value} {mg mb : Str → Option Value}
noncomputable def PartsSpec (w : World) (p : Program) (loose : List Str) (mean : ExcName → Option Value) (mg mb : Str → Option Value) (t : Tree) : Prop :=
  ∀ {dp un : Nat} {gd : Option (List Code)} {cn : Str} {cs : Scope} {a : Addr} {ccd : Value} {cl : List (Str × Addr)} {outer : List Env} {A₀ : Around} {base h₀ : Heap} {L : Addr} {m : Str → Option Value} {news : List (Addr × Obj)} {s : Shared} {v : Value} {P : Addr} {its : Array Value} {n : Nat} {ps : List (Nat × Nat)}
    {Q E : Value → Shared → Prop},
    Below A₀ base outer h₀ → Fr h₀ L s.heap m → (kmake.heap_1 w.params).In h₀ → News h₀ L s.heap ((P, listOf its n) :: news) → (∀ p ∈ news, p.1 ≠ P) → Top p loose mean mg mb h₀ → cs.kind = .function →
    TreeIn news v t → PartsIn news its.toList ps → ps.length + t.size ≤ 11 → dp + (t.size + 20) < recursionLimit → un + 8 * (t.size + 20) < cLine →
    (∀ its' n' tl h' tk' rt, Fr h₀ L h' m → News h₀ L h' ((P, listOf its' n') :: (news ++ tl)) → (∀ p ∈ news ++ tl, p.1 ≠ P) → PartsIn (news ++ tl) its'.toList (ps ++ pl t.sh ps.length) → Q (.int ((2 ^ (ps.length + t.size - 1) : Nat) : Int) rt) { s with heap := h', toks := tk' }) →
    wpAny (model PySem.Challenge.rw_we0032_01.row.prog w) (ktrTop dp un gd cn cs L a ccd cl outer) (call (.ref 302) [v, .ref P]) Q E s
local macro_rules | `(tactic| walk_at "call ref") => `(tactic| refine hold ?_)
local macro_rules | `(tactic| k_all) => `(tactic| first | assumption | exact List.forall_mem_append.mpr ⟨by k_all, by k_all⟩)
local macro_rules | `(tactic| walk_at "call builtin:len") => `(tactic| (refine r_len (by k_asm) (by k_mem) (by assumption) (by omega) ?_; intro _ _))
local macro_rules | `(tactic| walk_at "binaryOp Pow int int") => `(tactic| (refine r_pow2 (by omega) ?_))
local macro_rules | `(tactic| walk_at "subscriptTail") => `(tactic| (refine r_last (by k_asm) (by k_mem) ?_))
theorem parts_leaf {i : Int} : PartsSpec w p loose mean mg mb (.leaf i) := by
  w_top off
  unfold PartsSpec
  intro dp un gd cn cs a ccd cl outer A₀ base h₀ L m news s v P its n ps Q E B F X N hoff T hk hR hp hz hd hu hret
  cases hR
  case leaf hm =>
  have hlen := hp.length
  simp only [Tree.size] at hz hd hu
  have hsz : its.size ≤ sizeLine := by rw [sizeLine_eq]; simp at hlen; omega
  have hk9 : its.size = ps.length := by simpa using hlen
  refine wpAny_call ?_
  k_dflt ktr_enter
  k_steps
  (rename News _ _ _ _ => hN)
  refine hret _ _ [_] _ _ _ (by k_asm) (newsOf hN lP1) (List.forall_mem_append.mpr ⟨hoff, fun p hp => by rw [List.mem_singleton.mp hp]; k_ne⟩) ?_
  rw [Array.toList_push]
  exact (hp.mono ktn_subA).snoc (w := 0) ktn_new
theorem parts_node {o : Op} {t1 t2 : Tree} (IH1 : PartsSpec w p loose mean mg mb t1) (IH2 : PartsSpec w p loose mean mg mb t2) : PartsSpec w p loose mean mg mb (.node o t1 t2) := by
  w_top off
  unfold PartsSpec
  intro dp un gd cn cs a ccd cl outer A₀ base h₀ L m news s v P its n ps Q E B F X N hoff T hk hR hp hz hd hu hret
  cases hR
  case node hm h1 h2 =>
  simp only [Tree.size] at hz hd hu
  refine wpAny_call ?_
  k_dflt ktr_enter
  k_steps
  unfold Hold
  refine IH1 (by k_asm) (by k_asm) (by k_asm) (by k_asm) (by k_asm) (by k_asm) (by rfl) h1 hp (by omega) (by ktr_room) (by ktr_units) ?_
  intro its1 n1 tl1 h1' tk1 rt1 F1 N1 hoff1 hp1
  k_steps
  unfold Hold
  refine IH2 (by k_asm) (by k_asm) (by k_asm) (by k_asm) (by k_asm) (by k_asm) (by rfl) (h2.mono ktn_subA) hp1 (by rw [List.length_append, pl_length, Tree.sh_size]; omega) (by ktr_room) (by ktr_units) ?_
  intro its2 n2 tl2 h2' tk2 rt2 F2 N2 hoff2 hp2
  have hlen := hp2.length
  have hk9 : its2.size = ps.length + t1.size + t2.size := by simp only [List.length_append, pl_length, Tree.sh_size, Array.length_toList] at hlen; omega
  have hsz : its2.size ≤ sizeLine := by rw [sizeLine_eq]; omega
  k_steps
  (rename News _ _ _ _ => hN)
  have e : ps.length + t1.size + t2.size = ps.length + (Tree.node o t1 t2).size - 1 := by simp only [Tree.size]; omega
  rw [show (2 ^ (ps.length + t1.size + t2.size) : Nat) = 2 ^ (ps.length + (Tree.node o t1 t2).size - 1) by rw [e]]
  refine hret _ _ (tl1 ++ (tl2 ++ [_])) _ _ _ (by k_asm) (newsOf hN (by rw [← List.append_assoc, ← List.append_assoc]; exact lP1)) (by rw [← List.append_assoc, ← List.append_assoc]; exact List.forall_mem_append.mpr ⟨hoff2, fun p hp => by rw [List.mem_singleton.mp hp]; k_ne⟩) ?_
  rw [Array.toList_push, ← List.append_assoc, ← List.append_assoc]
  exact parts_end rfl t1.sh_size t2.sh_size (hp2.mono ktn_subA) ktn_new
theorem parts_spec : ∀ t, PartsSpec w p loose mean mg mb t
  | .leaf _ => parts_leaf
  | .node _ l r => parts_node (parts_spec l) (parts_spec r)
end Parts
end Mine
end
section
open PySem PySem.W PyProof.Rows
namespace Mine
local macro_rules | `(tactic| k_mem) => `(tactic| first | exact List.mem_cons_self .. | (refine List.mem_cons_of_mem _ ?_; k_mem))
local macro_rules | `(tactic| ktn_lt) => `(tactic| first
  | exact allLt_left (by assumption) | exact allLt_left (And.right (by assumption)) | exact allLt_left (And.right (And.right (by assumption))) | exact allLt_left (And.right (And.right (And.right (by assumption))))
  | exact allLt_left (allLt_of (by assumption)) | exact allLt_of (by assumption)
  | exact And.right (by assumption) | exact And.right (And.right (by assumption)) | exact And.right (And.right (And.right (by assumption))))
section Least
variable {w : World} {p : Program} {loose : List Str} {mean : ExcName → Option Value} {mg mb : Str → Option Value}
theorem PartsIn.get {news : List (Addr × Obj)} {vs : List Value} {ps : List (Nat × Nat)} (h : PartsIn news vs ps) : ∀ {i : Nat} {v : Value}, vs[i]? = some v → ∃ a b w t1 t2 n, v = .ref a ∧ ps[i]? = some (b, w) ∧ (a, ({ cls := .type "tuple", data := .seq #[.int ((b : Nat) : Int) t1, .int ((w : Nat) : Int) t2] n } : Obj)) ∈ news := by
  induction h with
  | nil => intro i v h; cases h
  | cons hm _ ih =>
    intro i v h
    cases i with
    | zero => cases h; exact ⟨_, _, _, _, _, _, rfl, rfl, hm⟩
    | succ i => exact ih h
noncomputable abbrev leastT : ToldN Tree where
  Rel := fun news vs t => ∃ v, vs = [v] ∧ TreeIn news v t
  Ok := fun t => t.size ≤ 11 ∧ ∃ k r, k ≤ 100 ∧ RunsN (2 * 2 ^ (t.size - 1) - 1) (pl t.sh 0) k start r ∧ r = (reg t : Nat)
  size := fun t => t.size + 50
  Tl := fun tl => tl = []
  Out := fun _ r t => ∃ tk, r = .int (reg t : Nat) tk














theorem em6 {a b c d e f : Str} {m : Str → Option Value} {va vb vc vd ve vf : Option Value} (ha : m a = va) (hb : m b = vb) (hc : m c = vc) (hd : m d = vd) (he : m e = ve) (hf : m f = vf) : ∀ x, (if x = a then va else if x = b then vb else if x = c then vc else if x = d then vd else if x = e then ve else if x = f then vf else m x) = m x := by
  intro x
  by_cases h : x = a
  · rw [if_pos h, h, ha]
  · rw [if_neg h]
    by_cases h : x = b
    · rw [if_pos h, h, hb]
    · rw [if_neg h]; exact em4 hc hd he hf x
theorem lPerm {a b c d : Addr × Obj} {r : List (Addr × Obj)} : ∀ p ∈ c :: b :: a :: d :: r, p ∈ a :: b :: c :: d :: r := by
  intro p hp
  simp only [List.mem_cons] at hp ⊢
  rcases hp with h | h | h | h | h
  · exact .inr (.inr (.inl h))
  · exact .inr (.inl h)
  · exact .inl h
  · exact .inr (.inr (.inr (.inl h)))
  · exact .inr (.inr (.inr (.inr h)))
structure LSt where
  srch : Srch
  wA : Nat
  lA : Nat
  wv : List Value
  lv : List Value
  wn : Nat
  ln : Nat
  o : Obj
  rtk : Tok
  dn : Option Value
  bt : Option Value
  bl : Option Value
  k : Nat
structure ISt where
  srch : Srch
  wv : List Value
  lv : List Value
  wn : Nat
  ln : Nat
  o : Obj
  bt : Option Value
  bl : Option Value
noncomputable def LOk (w : World) (D P0 : Nat) (news : List (Addr × Obj)) (st : LSt) : Prop :=
  LiveAt PySem.Challenge.rw_we0032_01.row.prog w st.o st.srch.live ∧ IntsAre st.wv (nats st.srch.waiting) ∧ IntsAre st.lv (nats st.srch.later) ∧ W st.srch + 22 * st.k ≤ 5000 ∧
  (@LT.lt Nat _ D st.wA ∧ @LT.lt Nat _ D st.lA ∧ @Ne Nat st.wA st.lA ∧ @LT.lt Nat _ P0 st.wA ∧ @LT.lt Nat _ P0 st.lA) ∧ (∀ p ∈ news, p.1 ≠ st.wA) ∧ (∀ p ∈ news, p.1 ≠ st.lA)
noncomputable abbrev lMp (m : Str → Option Value) (st : LSt) (x : Str) : Option Value := if x = Str.ofString "room" then some (.int st.srch.room st.rtk) else if x = Str.ofString "waiting" then some (.ref st.wA) else if x = Str.ofString "later" then some (.ref st.lA) else if x = Str.ofString "done" then st.dn else if x = Str.ofString "bit" then st.bt else if x = Str.ofString "below" then st.bl else m x
local macro_rules | `(tactic| walk_at "EMX") => `(tactic| (intro x; dsimp only [lMp]; by_cases e0 : x = Str.ofString "room"; (subst e0; rfl); by_cases e1 : x = Str.ofString "waiting"; (subst e1; rfl); by_cases e2 : x = Str.ofString "later"; (subst e2; rfl); by_cases e3 : x = Str.ofString "done"; (subst e3; rfl); by_cases e4 : x = Str.ofString "bit"; (subst e4; rfl); by_cases e5 : x = Str.ofString "below"; (subst e5; rfl); simp only [if_neg e0, if_neg e1, if_neg e2, if_neg e3, if_neg e4, if_neg e5]))
noncomputable abbrev lLg (D P0 : Nat) (pv : List Value) (n1 : Nat) (news : List (Addr × Obj)) (st : LSt) : List (Addr × Obj) := (D, st.o) :: (st.wA, listOf st.wv.toArray st.wn) :: (st.lA, listOf st.lv.toArray st.ln) :: (P0, listOf pv.toArray n1) :: news
noncomputable abbrev iLg (D wA lA P0 : Nat) (pv : List Value) (n1 : Nat) (news : List (Addr × Obj)) (st : ISt) : List (Addr × Obj) := (D, st.o) :: (wA, listOf st.wv.toArray st.wn) :: (lA, listOf st.lv.toArray st.ln) :: (P0, listOf pv.toArray n1) :: news
noncomputable def IOk (w : World) (d : Nat) (c : Int) (ps : List (Nat × Nat)) (s0 : Srch) (done : List Value) (st : ISt) : Prop :=
  st.srch = (ps.take done.length).foldl (step1 d c) s0 ∧ LiveAt PySem.Challenge.rw_we0032_01.row.prog w st.o st.srch.live ∧ IntsAre st.wv (nats st.srch.waiting) ∧ IntsAre st.lv (nats st.srch.later) ∧ getI d st.srch.live = some c ∧ W st.srch ≤ W s0 + 2 * done.length ∧ st.srch.room = s0.room
theorem none_of {α : Type} {o : Option α} (h : o.isSome = false) : o = none := by cases o with | none => rfl | some _ => cases h
theorem step_c1 {d b wd : Nat} {c : Int} {s : Srch} (h : ((d &&& b : Nat) : Int) ≠ 0) : step1 d c s (b, wd) = s := by
  unfold step1
  rw [if_neg]
  intro q
  exact h (by rw [Nat.eq_of_beq_eq_true q]; rfl)
theorem step_c2 {d b wd : Nat} {c : Int} {s : Srch} (h : ((d &&& wd : Nat) : Int) ≠ (wd : Int)) : step1 d c s (b, wd) = s := by
  unfold step1
  split
  · rw [if_neg]
    intro q
    exact h (by rw [Nat.eq_of_beq_eq_true q])
  · rfl
theorem step_c3 {d b wd : Nat} {c : Int} {s : Srch} (h : (getI (d + b) s.live).isSome = true) : step1 d c s (b, wd) = s := by
  obtain ⟨x, hx⟩ := Option.isSome_iff_exists.mp h
  unfold step1
  split
  · split
    · dsimp only; rw [hx]
    · rfl
  · rfl
theorem beq_of {a b : Nat} (h : (a : Int) = (b : Int)) : Nat.beq a b = true := by
  have : a = b := by exact_mod_cast h
  rw [this]; exact Nat.beq_refl b
theorem step_in {d b wd : Nat} {c u : Int} {live : List (Nat × Int)} {waiting later : List Nat} {room : Int} (h1 : ((d &&& b : Nat) : Int) = 0) (h2 : ((d &&& wd : Nat) : Int) = (wd : Int)) (h3 : (getI (d + b) live).isSome = false) (hu : upOf wd = u) :
    step1 d c ⟨live, waiting, later, room⟩ (b, wd) = if c + u ≤ room then ⟨live ++ [(d + b, c + u)], waiting ++ [d + b], later, room⟩ else ⟨live ++ [(d + b, c + u)], waiting, later ++ [d + b], room⟩ := by
  subst hu
  unfold step1
  dsimp only
  rw [if_pos (beq_of (b := 0) h1), if_pos (beq_of h2), none_of h3]
theorem up_one {wd : Nat} (h : (wd : Int) = 0) : upOf wd = 1 := by unfold upOf; rw [if_pos (beq_of (b := 0) h)]
theorem up_neg {wd : Nat} (h : (wd : Int) ≠ 0) : upOf wd = -1 := by
  unfold upOf
  rw [if_neg]
  intro q
  exact h (by rw [Nat.eq_of_beq_eq_true q]; rfl)
theorem IOk.next {w : World} {d : Nat} {c : Int} {ps : List (Nat × Nat)} {s0 : Srch} {done : List Value} {v : Value} {s : Srch} {q : Nat × Nat} (st' : ISt) (hst : (ps.take (done.length + 1)).foldl (step1 d c) s0 = step1 d c s q) (hs' : step1 d c s q = st'.srch)
    (hl' : LiveAt PySem.Challenge.rw_we0032_01.row.prog w st'.o st'.srch.live) (hw' : IntsAre st'.wv (nats st'.srch.waiting)) (hl2 : IntsAre st'.lv (nats st'.srch.later)) (hg : getI d s.live = some c) (hW : W s ≤ W s0 + 2 * done.length) (hr : s.room = s0.room) (hr2 : st'.srch.room = s.room) : IOk w d c ps s0 (done ++ [v]) st' := by
  have hW' := W_step d c s q
  have hg' := step_keeps (p := q) hg
  rw [hs'] at hst hW' hg'
  refine ⟨?_, hl', hw', hl2, hg', ?_, hr2.trans hr⟩
  · rw [List.length_append]; exact hst.symm
  · rw [List.length_append, List.length_cons, List.length_nil]; omega
theorem hI5 {D wA lA P0 I : Nat} {o x y z : Obj} {r : List (Addr × Obj)} (h1 : @Ne Nat D I) (h2 : @Ne Nat wA I) (h3 : @Ne Nat lA I) (h4 : @Ne Nat P0 I) (h5 : ∀ p ∈ r, p.1 ≠ I) : ∀ p ∈ ((D, o) :: (wA, x) :: (lA, y) :: (P0, z) :: r : List (Addr × Obj)), p.1 ≠ I := by
  intro p hp
  simp only [List.mem_cons] at hp
  rcases hp with h | h | h | h | h
  · rw [h]; exact h1
  · rw [h]; exact h2
  · rw [h]; exact h3
  · rw [h]; exact h4
  · exact h5 p h
theorem fold_take {α β : Type} {f : β → α → β} {s0 : β} {ps : List α} {i : Nat} {q : α} (h : ps[i]? = some q) : (ps.take (i + 1)).foldl f s0 = f ((ps.take i).foldl f s0) q := by
  rw [List.take_add_one, h, List.foldl_append]; rfl
theorem ints_snoc {us : List Value} {l : List Nat} {d b : Nat} {t : Tok} (h : IntsAre us (nats l)) : IntsAre (us ++ [.int ((d : Int) + (b : Int)) t]) (nats (l ++ [d + b])) := by
  have e : nats (l ++ [d + b]) = nats l ++ [(d : Int) + (b : Int)] := by simp [nats]
  rw [e]
  exact h.append (.cons _ _ .nil)
local macro_rules | `(tactic| walk_at "call ref") => `(tactic| refine hold ?_)
local macro_rules | `(tactic| walk_at "exec While Compare cons nil") => `(tactic| refine hold ?_)
local macro_rules | `(tactic| walk_at "exec For Tuple Name cons nil") => `(tactic| refine hold ?_)
local macro_rules | `(tactic| walk_at "exec If") => `(tactic| refine hold ?_)
local macro_rules | `(tactic| k_all) => `(tactic| first | assumption | exact List.forall_mem_append.mpr ⟨by k_all, by k_all⟩)
local macro_rules | `(tactic| walk_at "NKEY") => `(tactic| first | assumption | exact (Int.natCast_add _ _).symm | rfl)
local macro_rules | `(tactic| walk_at "compareOp NotIn int ref") => `(tactic| refine r_dnotin (by k_asm) (by k_mem) (by assumption) (by assumption) (by walk_at "NKEY") ?_)
local macro_rules | `(tactic| walk_at "subscriptTail") => `(tactic| (refine r_dget (by k_asm) (by k_mem) (by assumption) (by assumption) (by walk_at "NKEY") (by first | assumption | exact getI_new (none_of (by assumption))) ?_; intro _))
local macro_rules | `(tactic| walk_at "setItem ref int") => `(tactic| (refine r_dset (by k_asm) (by k_asm) (by k_updF) (by assumption) (by walk_at "NKEY") (none_of (by assumption)) (by omega) ?_; intro h' o' tk' F' N' hl'; (try dsimp only at N')))
local macro_rules | `(tactic| walk_at "binaryOp BitAnd int int") => `(tactic| refine r_and ?_)
local macro_rules | `(tactic| walk_at "call builtin:list.pop") => `(tactic| (refine r_pop (by k_asm) (by k_asm) (by k_upd) (by assumption) (by assumption) (by omega) ?_; intro h' t' F' N' hI'))
local macro_rules | `(tactic| walk_at "call builtin:list.append") => `(tactic| (refine r_append (by k_asm) (by k_asm) (by k_upd) (by omega) ?_; intro h' F' N'))
local macro_rules | `(tactic| walk_at "compareOp Eq ref ref") => `(tactic| first | refine r_eqnil_t (by k_asm) (by k_mem) (by assumption) (by k_mem) (by ktr_units) ?_ | refine r_eqnil_f (by k_asm) (by k_mem) (by assumption) (by k_mem) (by ktr_units) ?_)
theorem least_tells : ∀ d, TellsN PySem.Challenge.rw_we0032_01.row.prog w (kmake.heap_1 w.params) p loose mean mg mb 309 leastT d := by
  w_top off
  intro t
  unfold TellsN
  intro dp un gd cn cs a ccd cl outer A₀ base h₀ L m news s vs Q E B F X N T hk hR hok hd hu hret
  obtain ⟨v, rfl, hR⟩ := hR
  obtain ⟨hz, kk, rr, hkk, hruns, hrr⟩ := hok
  dsimp only [leastT] at hd hu
  refine wpAny_call ?_
  k_dflt ktr_enter
  k_steps
  unfold Hold
  (rename Fr _ _ _ _ => hF0; rename News _ _ _ _ => hN0)
  rename_i P0 _ hl1 _
  refine parts_spec t (by k_asm) (by k_asm) (by k_asm) (by k_asm) (fun p hp => Nat.ne_of_lt (hl1 p hp)) (by k_asm) (by rfl) hR .nil (by simpa using hz) (by ktr_room) (by ktr_units) ?_
  intro its1 n1 tl1 h1' tk1 rt1 F1 N1 hoff1 hp1
  obtain ⟨pv, rfl⟩ : ∃ pv : List Value, its1 = pv.toArray := ⟨its1.toList, by simp⟩
  have hp1 : PartsIn (news ++ tl1) pv (pl t.sh 0) := by simpa using hp1
  have hplen := hp1.length
  rw [pl_length, Tree.sh_size] at hplen
  generalize eq0 : (2 ^ (([] : List (Nat × Nat)).length + t.size - 1) : Nat) = q0
  have eq0' : q0 = 2 ^ (t.size - 1) := by rw [← eq0]; simp
  have hq0 : 1 ≤ q0 := by rw [eq0']; exact Nat.one_le_two_pow
  have hqb : Builtin.Int.intBits (q0 : Int) ≤ 64 := by
    refine intBits_le_64 (by omega) ?_
    have : q0 ≤ 2 ^ 10 := by rw [eq0']; exact Nat.pow_le_pow_right (by decide) (by omega)
    omega
  rw [← eq0'] at hruns
  generalize efull : 2 * q0 - 1 = full at hruns
  have hfull : 2 * (q0 : Int) - 1 = (full : Nat) := by omega
  k_steps
  unfold Hold
  (rename Fr _ _ _ _ => hF; rename News _ _ _ _ => hN)
  rename_i h7 _ _ od lod hdd hfd _ l1a _ w0 _ l1b _ _ lt0 _ l1c _ _
  obtain ⟨D, eD⟩ : ∃ D : Nat, D = h7.objs.size := ⟨_, rfl⟩
  rw [← eD] at hF hN lod l1a l1b l1c
  have hlive : LiveAt PySem.Challenge.rw_we0032_01.row.prog w od start.live := ⟨_, hdd, hfd⟩
  have hoD : ∀ p ∈ news ++ tl1, p.1 ≠ D := fun p hp => Nat.ne_of_lt (ktn_ltOf l1a.2 p hp)
  have hPD : @LT.lt Nat _ P0 D := l1a.1
  refine while_st hF hN (σ := LSt) lMp (lLg D P0 pv n1 (news ++ tl1)) (fun st => st.k)
    (fun st => RunsN full (pl t.sh 0) st.k st.srch rr ∧ LOk w D P0 (news ++ tl1) st) ⟨start, w0, lt0, [.int 0 _], [], 0, 0, od, _, none, none, none, kk⟩ (em6 rfl rfl rfl rfl rfl rfl) lPerm ?_ ?_
  · refine ⟨hruns, hlive, .cons 0 _ .nil, .nil, by show 2 + 22 * kk ≤ 5000; omega, ⟨l1b.1, l1c.2.1, Nat.ne_of_lt l1c.1, l1b.2.1, l1c.2.2.1⟩, fun p hp => Nat.ne_of_lt (ktn_ltOf l1b.2.2 p hp), fun p hp => Nat.ne_of_lt (ktn_ltOf l1c.2.2.2 p hp)⟩
  clear hF hN
  rintro Wk ⟨⟨live, waiting, later, room⟩, wA, lA, wv, lv, wn, ln, o, rtk, dn, bt, bl, k⟩ h₁ tk₁ hWe ⟨hR1, hL, hwI, hlI, hW, ⟨ap1, ap2, ap3, ap4, ap5⟩, hw9, hl9⟩ hF hN
  dsimp only [lMp, lLg] at hR1 hL hwI hlI hW ap1 ap2 ap3 ap4 ap5 hw9 hl9 hF hN ⊢
  cases k with
  | zero =>
    obtain ⟨g1, g2⟩ := hR1
    dsimp only at g1 g2
    k_steps
    (rename News _ _ _ _ => hN)
    exact hret _ [] _ _ (by k_asm) (newsOf hN (lSkip (lSkip (lSkip (lSkip lNone))))) ktn_ord0 rfl ⟨_, by rw [g2, hrr]⟩
  | succ k =>
    obtain ⟨g1, s', g2, g3⟩ := hR1
    dsimp only at g1
    k_steps
    unfold Hold
    (rename Fr _ _ _ _ => hF; rename News _ _ _ _ => hN)
    refine join_st lMp (lLg D P0 pv n1 (news ++ tl1)) (fun st => st.srch = refill ⟨live, waiting, later, room⟩ ∧ LOk w D P0 (news ++ tl1) st ∧ st.k = k + 1) ⟨⟨live, waiting, later, room⟩, wA, lA, wv, lv, wn, ln, o, rtk, dn, bt, bl, k + 1⟩ hF s ?_ ?_
    · intro Xk hXk
      refine wpAny_If ?_
      cases waiting with
      | nil =>
        k_steps
        (rename Fr _ _ _ _ => hF; rename News _ _ _ _ => hN)
        rename_i nb _ l1n _
        obtain ⟨-, q1, q2, q3, q4, q5⟩ := l1n
        exact hXk.end hF hN ⟨⟨live, later, [], room + 1⟩, lA, nb, lv, [], ln, 0, o, _, dn, bt, bl, k + 1⟩ (by walk_at "EMX") (by intro p hp; simp only [lLg, List.mem_cons] at hp ⊢; rcases hp with h | h | h | h | h <;> simp only [h, true_or, or_true])
          ⟨rfl, ⟨hL, hlI, .nil, by simpa [W, Nat.add_assoc, Nat.add_comm, Nat.add_left_comm] using hW, ⟨ap2, q1, Nat.ne_of_lt q3, ap5, q4⟩, hl9, fun p hp => Nat.ne_of_lt (ktn_ltOf q5 p hp)⟩, rfl⟩
      | cons x r =>
        k_steps
        (rename Fr _ _ _ _ => hF; rename News _ _ _ _ => hN)
        exact hXk.end hF hN ⟨⟨live, x :: r, later, room⟩, wA, lA, wv, lv, wn, ln, o, rtk, dn, bt, bl, k + 1⟩ (fun _ => rfl) (lSkip lAll)
          ⟨rfl, ⟨hL, hwI, hlI, hW, ⟨ap1, ap2, ap3, ap4, ap5⟩, hw9, hl9⟩, rfl⟩
    · clear hF hN hL hwI hlI hW ap1 ap2 ap3 ap4 ap5 hw9 hl9
      rintro ⟨⟨live2, waiting2, later2, room2⟩, wA, lA, wv, lv, wn, ln, o, rtk, dn, bt, bl, k2⟩ h₂ tk₂ ⟨hsr, ⟨hL, hwI, hlI, hW, ⟨ap1, ap2, ap3, ap4, ap5⟩, hw9, hl9⟩, hk2⟩ hF hN
      dsimp only [lMp, lLg] at hsr hL hwI hlI hW ap1 ap2 ap3 ap4 ap5 hw9 hl9 hk2 hF hN ⊢
      subst hk2
      unfold turnS at g2
      rw [← hsr] at g2
      dsimp only at g2
      cases waiting2 with
      | nil => cases g2
      | cons x r =>
        dsimp only at g2
        cases e5 : getI ((x :: r).getLastD 0) live2 with
        | none => rw [e5] at g2; cases g2
        | some c =>
          rw [e5] at g2
          obtain rfl := Option.some.inj g2
          have hne : 0 < (x :: r).length := Nat.succ_pos _
          have hlw : (x :: r).length ≤ 100000 := by unfold W at hW; dsimp only at hW; omega
          k_steps
          unfold Hold
          (rename Fr _ _ _ _ => hF; rename News _ _ _ _ => hN)
          have hW2 : W (⟨live2, (x :: r).dropLast, later2, room2⟩ : Srch) + 22 * (k + 1) ≤ 5000 := by
            unfold W at hW ⊢
            simp only [List.length_dropLast, List.length_cons] at hW ⊢
            omega
          generalize ed : (x :: r).getLastD 0 = d at *
          refine for_st (l := P0) (n := n1) (vs := pv) rfl hF hN (ld hF rfl ⟨rfl, rfl⟩) (σ := ISt) (fun m st x => if x = Str.ofString "below" then st.bl else if x = Str.ofString "bit" then st.bt else m x) (iLg D wA lA P0 pv n1 (news ++ tl1))
            (IOk w d c (pl t.sh 0) ⟨live2, (x :: r).dropLast, later2, room2⟩) ⟨⟨live2, (x :: r).dropLast, later2, room2⟩, _, lv, _, ln, o, bt, bl⟩ (em2 rfl rfl) lAll ⟨rfl, hL, by assumption, hlI, e5, Nat.le_refl _, rfl⟩ (fun _ _ _ => by simp [iLg]) ?_ ?_
          · clear hF hN
            rintro Wf I it done v rest ⟨⟨live3, waiting3, later3, room3⟩, wv3, lv3, wn3, ln3, o3, bt3, bl3⟩ h₃ tk₃ hvs hWf ⟨i1, i2, i3, i4, i5, i6, i7⟩ hI hF hN
            dsimp only [iLg] at i1 i2 i3 i4 i5 i6 i7 hI hF hN
            subst i7
            have hI1 : @Ne Nat D I := hI _ (.head _)
            have hI2 : @Ne Nat wA I := hI _ (.tail _ (.head _))
            have hI3 : @Ne Nat lA I := hI _ (.tail _ (.tail _ (.head _)))
            have hI4 : @Ne Nat P0 I := hI _ (.tail _ (.tail _ (.tail _ (.head _))))
            have hI5' : ∀ p ∈ news ++ tl1, p.1 ≠ I := fun p hp => hI _ (.tail _ (.tail _ (.tail _ (.tail _ hp))))
            have hdl : done.length < 12 := by
              have := congrArg List.length hvs
              simp only [List.length_append, List.length_cons] at this
              omega
            obtain ⟨ta, b, wd, t1, t2, nn, rfl, hps, hmem⟩ := hp1.get (i := done.length) (v := v) (by rw [hvs]; simp)
            have hWl : live3.length ≤ 100000 ∧ waiting3.length ≤ 100000 ∧ later3.length ≤ 100000 := by unfold W at i6 hW2; dsimp only at i6 hW2; omega
            have hwl := i3.length
            have hll := i4.length
            simp only [nats, List.length_map] at hwl hll
            have hst := fold_take (f := step1 d c) (s0 := ⟨live2, (x :: r).dropLast, later2, room3⟩) hps
            rw [← i1] at hst
            have hWs := W_step d c ⟨live3, waiting3, later3, room3⟩ (b, wd)
            k_steps
            unfold Hold
            refine wpAny_If ?_
            k_steps
            · (rename Fr _ _ _ _ => hF; rename News _ _ _ _ => hN)
              exact hWf.end hF hN ⟨⟨live3, waiting3, later3, room3⟩, wv3, lv3, wn3, ln3, o3, _, _⟩ mm2 lAll (hI5 hI1 hI2 hI3 hI4 hI5') (IOk.next _ hst (step_c3 (by assumption)) i2 i3 i4 i5 i6 rfl rfl)
            · unfold Hold
              refine wpAny_If ?_
              k_steps
              · (rename Fr _ _ _ _ => hF; rename News _ _ _ _ => hN)
                exact hWf.end hF hN ⟨⟨live3 ++ [(d + b, c + 1)], waiting3 ++ [d + b], later3, room3⟩, _, lv3, _, ln3, _, _, _⟩ mm2 lAll (hI5 hI1 hI2 hI3 hI4 hI5') (IOk.next _ hst ((step_in (by assumption) (by assumption) (by assumption) (up_one (by assumption))).trans (if_pos (by assumption))) (by assumption) (ints_snoc i3) i4 i5 i6 rfl rfl)
              · (rename Fr _ _ _ _ => hF; rename News _ _ _ _ => hN)
                exact hWf.end hF hN ⟨⟨live3 ++ [(d + b, c + 1)], waiting3, later3 ++ [d + b], room3⟩, wv3, _, wn3, _, _, _, _⟩ mm2 lAll (hI5 hI1 hI2 hI3 hI4 hI5') (IOk.next _ hst ((step_in (by assumption) (by assumption) (by assumption) (up_one (by assumption))).trans (if_neg (by omega))) (by assumption) i3 (ints_snoc i4) i5 i6 rfl rfl)
            · unfold Hold
              refine wpAny_If ?_
              k_steps
              · (rename Fr _ _ _ _ => hF; rename News _ _ _ _ => hN)
                exact hWf.end hF hN ⟨⟨live3 ++ [(d + b, c + -1)], waiting3 ++ [d + b], later3, room3⟩, _, lv3, _, ln3, _, _, _⟩ mm2 lAll (hI5 hI1 hI2 hI3 hI4 hI5') (IOk.next _ hst ((step_in (by assumption) (by assumption) (by assumption) (up_neg (by assumption))).trans (if_pos (by assumption))) (by assumption) (ints_snoc i3) i4 i5 i6 rfl rfl)
              · (rename Fr _ _ _ _ => hF; rename News _ _ _ _ => hN)
                exact hWf.end hF hN ⟨⟨live3 ++ [(d + b, c + -1)], waiting3, later3 ++ [d + b], room3⟩, wv3, _, wn3, _, _, _, _⟩ mm2 lAll (hI5 hI1 hI2 hI3 hI4 hI5') (IOk.next _ hst ((step_in (by assumption) (by assumption) (by assumption) (up_neg (by assumption))).trans (if_neg (by omega))) (by assumption) i3 (ints_snoc i4) i5 i6 rfl rfl)
            · (rename Fr _ _ _ _ => hF; rename News _ _ _ _ => hN)
              exact hWf.end hF hN ⟨⟨live3, waiting3, later3, room3⟩, wv3, lv3, wn3, ln3, o3, _, _⟩ mm2 lAll (hI5 hI1 hI2 hI3 hI4 hI5') (IOk.next _ hst (step_c2 (by assumption)) i2 i3 i4 i5 i6 rfl rfl)
            · (rename Fr _ _ _ _ => hF; rename News _ _ _ _ => hN)
              exact hWf.end hF hN ⟨⟨live3, waiting3, later3, room3⟩, wv3, lv3, wn3, ln3, o3, _, _⟩ mm2 lAll (hI5 hI1 hI2 hI3 hI4 hI5') (IOk.next _ hst (step_c1 (by assumption)) i2 i3 i4 i5 i6 rfl rfl)
          · clear hF hN
            rintro ⟨⟨live3, waiting3, later3, room3⟩, wv3, lv3, wn3, ln3, o3, bt3, bl3⟩ h₃ tk₃ ⟨i1, i2, i3, i4, i5, i6, i7⟩ hF hN
            dsimp only [iLg] at i1 i2 i3 i4 i5 i6 i7 hF hN
            k_steps
            (rename Fr _ _ _ _ => hF; rename News _ _ _ _ => hN)
            have ept : (pl t.sh 0).take pv.length = pl t.sh 0 := List.take_of_length_le (by rw [pl_length, Tree.sh_size]; omega)
            rw [ept] at i1
            rw [← i1] at g3
            have hWk : W (⟨live3, waiting3, later3, room3⟩ : Srch) + 22 * k ≤ 5000 := by omega
            exact hWe.end hF hN ⟨⟨live3, waiting3, later3, room3⟩, wA, lA, wv3, lv3, wn3, ln3, o3, rtk, _, bt3, bl3, k⟩ (by subst i7; walk_at "EMX") lAll (Nat.lt_succ_self _)
              ⟨g3, i2, i3, i4, hWk, ⟨ap1, ap2, ap3, ap4, ap5⟩, hw9, hl9⟩
end Least
end Mine
end
section
open PySem PySem.W PyProof.Rows
namespace Mine
local macro_rules | `(tactic| k_mem) => `(tactic| first | exact List.mem_cons_self .. | (refine List.mem_cons_of_mem _ ?_; k_mem))
local macro_rules | `(tactic| ktn_lt) => `(tactic| first
  | exact allLt_left (by assumption) | exact allLt_left (And.right (by assumption)) | exact allLt_left (And.right (And.right (by assumption))) | exact allLt_left (And.right (And.right (And.right (by assumption))))
  | exact allLt_left (allLt_of (by assumption)) | exact allLt_of (by assumption)
  | exact And.right (by assumption) | exact And.right (And.right (by assumption)) | exact And.right (And.right (And.right (by assumption))))
section Done
variable {w : World} {p : Program} {loose : List Str} {mean : ExcName → Option Value} {mg mb : Str → Option Value}
noncomputable abbrev doneT : ToldN (Op × Int × Int) where
  Rel := fun _ vs d => ∃ t0 t1 t2, vs = [.int d.1.deed t0, .int d.2.1 t1, .int d.2.2 t2]
  Ok := fun d => Builtin.Int.intBits d.2.1 ≤ 64 ∧ Builtin.Int.intBits d.2.2 ≤ 64
  size := fun _ => 10
  Tl := fun tl => tl = []
  Out := fun _ r d => ∃ tk, r = .int (d.1.app d.2.1 d.2.2) tk
local macro_rules | `(tactic| ktr_unf) => `(tactic| (try simp only [doneT] at *))
local macro_rules | `(tactic| walk_at "ENTER") => `(tactic| (refine' code_def ?k1 ?k2 ?k3 ?k4 ?k5 ?kA ?kF ?kK ?k6 ?k7 ?k8 ?k9 ?kB ?_ ?c2 ?c3 ?c4 ?c5; (case kA => exact rfl); (case kF => exact rfl); (case kK => first | assumption | exact rfl); (case k1 => k_asm); (case k2 => k_asm); (case k3 => k_asm); (case k4 => k_asm); (case k5 => k_asm); (case k6 => k_is); (case k7 => k_is); (case k8 => ktr_room); (case k9 => exact BindsTo.of_eq rfl); (case c5 => decide); (case kB => exact locs rfl); (case c2 => exact rfl); (case c3 => exact rfl); (case c4 => exact rfl); k_whole; intro _ _ _ _ _ _ _ _ _; (try dsimp only); (try k_fold)))
local macro_rules | `(tactic| walk_at "call ref") => `(tactic| (refine wpAny_call ?_; k_dflt (walk_at "ENTER")))
theorem done_tells : ∀ d, TellsN PySem.Challenge.rw_we0032_01.row.prog w (kmake.heap_1 w.params) p loose mean mg mb 288 doneT d := by
  w_top off
  rintro ⟨o, x, y⟩
  unfold TellsN
  intro dp un gd cn cs a ccd cl outer A₀ base h₀ L m news s vs Q E B F X N T hk hR hok hd hu hret
  obtain ⟨t0, t1, t2, rfl⟩ := hR
  obtain ⟨hb1, hb2⟩ := hok
  dsimp only [doneT] at hd hu
  generalize hz : o.deed = z
  refine wpAny_call ?_
  k_dflt ktr_enter
  k_steps
  all_goals (cases o <;> first
    | (exfalso; simp only [Op.deed] at hz; omega)
    | ktn_end hret)
end Done
end Mine
end
section
open PySem PySem.W PyProof.Rows
namespace Mine
open PySem.Builtin PySem.Builtin.Re
theorem pat_plain : PlainAttrs "re.Pattern" :=
  ⟨⟨"object.__getattribute__", by rw [typeLookup_type, builtinLookup_eq_fast]; kernel_rfl, by decide +kernel⟩, by rw [typeLookup_type, builtinLookup_eq_fast]; kernel_rfl⟩
theorem pat_search : Slot "re.Pattern" "search" "re.Pattern.search" :=
  .of (owner := "re.Pattern") (n := "search") (by rw [typeLookup_type, builtinLookup_eq_fast]; kernel_rfl) (by decide +kernel) (by decide +kernel) (by decide +kernel)
    (by first | exact .inl (by decide +kernel) | exact .inr (by decide +kernel)) (by rw [isSubtype_type]; kernel_rfl)
theorem pat_type : typeOf (.builtin "re.Pattern.search") = pure (.type "method_descriptor") := by show builtinType _ = _; rw [builtinType_eq_fast]; kernel_rfl
theorem pat_entry : entryFor table "re.Pattern.search" = some Builtin.«re.Pattern.search» := entryFor_of_tree (by kernel_rfl)
theorem pat_args (a b : Value) : argsOk "re.Pattern.search" ⟨[a, b], []⟩ := by
  unfold argsOk
  have e : Manifest.signature? "re.Pattern.search" = Manifest.sig_re_Pattern.lookup "search" := by unfold Manifest.signature?; kernel_rfl
  rw [e]; kernel_rfl

theorem adm_none {m : Sre.M} {okc : Nat → Prop} (hs : ∀ c seen, okc c → ∃ seen', Sre.inSet m.code c m.code.size 5 true seen = .ok (false, seen')) (ht : ∀ i, i < m.lim → okc (m.text.getD i 0)) :
    ∀ fuel s seen, ∃ seen', m.admitted fuel s seen = .ok (none, seen') := by
  intro fuel
  induction fuel with
  | zero => exact fun s seen => ⟨seen, rfl⟩
  | succ f ih =>
    intro s seen
    unfold Sre.M.admitted
    by_cases h : s ≥ m.lim
    · rw [if_pos h]; exact ⟨seen, rfl⟩
    · rw [if_neg h]
      obtain ⟨seen1, e⟩ := hs (m.text.getD s 0) seen (ht s (by omega))
      rw [e]
      exact ih (s + 1) seen1
theorem fs_none {code text : Array Nat} {okc : Nat → Prop} (h0 : ((match Sre.ops[code.getD 0 0]? with | some .INFO => true | _ => false) && code.getD 2 0 == 4) = true)
    (hs : ∀ c seen, okc c → ∃ seen', Sre.inSet code c code.size 5 true seen = .ok (false, seen')) (ht : ∀ i, i < text.size → okc (text.getD i 0)) (g : Nat) :
    ∃ m : Sre.M, Sre.forSearch code text g 0 text.size false = m ∧ m.answer = some false ∧ m.frames = [] ∧ m.outcome = none := by
  obtain ⟨m, hc, htx, hl, hf, ho, he⟩ : ∃ m : Sre.M, m.code = code ∧ m.text = text ∧ m.lim = text.size ∧ m.frames = [] ∧ m.outcome = none ∧
      Sre.forSearch code text g 0 text.size false = (if 0 > text.size || text.size - 0 < (Sre.header code).1 then m.say false
        else { m with lastStart := if (Sre.header code).1 > 1 && !((Sre.header code).2 != 0 && code.getD 2 0 &&& 5 != 0) then max 0 (text.size - ((Sre.header code).1 - 1)) else text.size }.attemptFrom 0 true) := by
    refine ⟨_, ?_, ?_, ?_, ?_, ?_, rfl⟩ <;> rfl
  rw [he]
  split
  · exact ⟨_, rfl, rfl, hf, ho⟩
  · generalize (if (Sre.header code).1 > 1 && !((Sre.header code).2 != 0 && code.getD 2 0 &&& 5 != 0) then max 0 (text.size - ((Sre.header code).1 - 1)) else text.size) = ls
    refine ⟨_, rfl, ?_⟩
    have hh : Sre.M.hasFirstSet { m with lastStart := ls } = true := by
      unfold Sre.M.hasFirstSet
      dsimp only
      rw [hc]; exact h0
    obtain ⟨seen', e⟩ := adm_none (m := { m with lastStart := ls }) (okc := okc) (by dsimp only; rw [hc]; exact hs) (by dsimp only; rw [hl, htx]; exact ht) (m.lim + 1 - 0) 0 m.seen
    unfold Sre.M.attemptFrom
    rw [hh]
    simp only [Bool.not_true, Bool.false_eq_true, if_false]
    rw [e]
    exact ⟨rfl, hf, ho⟩
theorem drive_succ (n : Nat) (m : Sre.M) : reDrive (n + 1) m = (if (m.runFor 4).outcome.isSome then pure (m.runFor 4) else do rule "sre.turn"; reDrive n (m.runFor 4)) := rfl
theorem drive_none {m : Sre.M} (h1 : m.answer = some false) (h2 : m.frames = []) (h3 : m.outcome = none) : ∃ m' : Sre.M, reDrive (2 ^ 64) m = pure m' ∧ m'.outcome = some .failed := by
  have e := (congrArg (fun k => reDrive k m) (show (2 ^ 64 : Nat) = 18446744073709551615 + 1 by decide)).trans (drive_succ _ m)
  have s1 : m.step = { m with outcome := some .failed } := by
    unfold Sre.M.step
    rw [h3, h1, h2]; rfl
  have r : m.runFor 4 = { m with outcome := some .failed } := by
    rw [Sre.M.runFor, h3]
    simp only [Option.isSome_none, Bool.false_eq_true, if_false]
    rw [s1]; rfl
  rw [r] at e
  exact ⟨_, e, rfl⟩
section
variable {M : Model} {A : Around} {E : Value → Shared → Prop} {s : Shared}
theorem wp_rules {l : List Nat} {c : Nat → Bool} {n : Nat → String} {Q : PUnit → Shared → Prop} (h : Q ⟨⟩ s) :
    wpAny M A (forIn l PUnit.unit (fun i _ => if c i = true then (do rule (n i); pure (ForInStep.yield PUnit.unit)) else pure (ForInStep.yield PUnit.unit))) Q E s := by
  induction l with
  | nil => rw [List.forIn_nil]; exact wpAny_pure h
  | cons i l ih =>
    rw [List.forIn_cons]
    refine wpAny_bind ?_
    split
    · exact wpAny_bind (wpAny_rule (wpAny_pure ih))
    · exact wpAny_pure ih
theorem run_none {m : Sre.M} (h1 : m.answer = some false) (h2 : m.frames = []) (h3 : m.outcome = none) {Q : Option Sre.M → Shared → Prop} (h : Q none s) : wpAny M A (reRunToEnd m) Q E s := by
  obtain ⟨m', e, ho⟩ := drive_none h1 h2 h3
  unfold reRunToEnd
  rw [e]
  refine wpAny_bind (wpAny_pure ?_)
  rw [ho]
  exact wpAny_bind (wp_rules (wpAny_pure h))
theorem answer_none {t : ReTarget} {m : Sre.M} (h1 : m.answer = some false) (h2 : m.frames = []) (h3 : m.outcome = none) {Q : Fin → Shared → Prop} (h : Q (.done (.ret .none)) s) : wpAny M A (reAnswer t m) Q E s := by
  unfold reAnswer
  exact wpAny_bind (run_none h1 h2 h3 (wpAny_pure h))
theorem named_search {v : Value} : reNamed "re.Pattern.search" "search" ["string", "pos", "endpos"] 1 [v] [] = pure [some v, none, none] := by
  rfl
theorem text_str {x : Str} {t : Tok} {Q : Array Nat × Nat → Shared → Prop} (h : Q (x.cps, 0) s) : wpAny M A (reTextOf (.str x t)) Q E s := by
  have e : asStr? (.str x t) = pure (some x) := rfl
  unfold reTextOf
  rw [e]
  exact wpAny_bind (wpAny_pure (wpAny_pure h))
end
section
variable {prog : Program} {w : World} {A : Around} {E : Value → Shared → Prop} {s : Shared} {h₀ : Heap} {a c : Addr} {x : Str} {t : Tok}
structure PatAt (h : Heap) (a : Addr) (code : Array Nat) : Prop where
  out : ∃ o oc c fs items n, h.get? a = some o ∧ o.cls = .type "re.Pattern" ∧ o.dict = none ∧ o.data = .fields fs ∧ fs.getD 5 .none = .ref c ∧ reRawNat (fs.getD 6 .none) = 0 ∧ h.get? c = some oc ∧ oc.data = .seq items n ∧ (items.map reRawOf).map (·.toNat) = code
theorem r_search {code : Array Nat} {okc : Nat → Prop} {Q : Value → Shared → Prop} (P : PatAt s.heap a code)
    (h0 : ((match Sre.ops[code.getD 0 0]? with | some .INFO => true | _ => false) && code.getD 2 0 == 4) = true)
    (hs : ∀ c seen, okc c → ∃ seen', Sre.inSet code c code.size 5 true seen = .ok (false, seen')) (ht : ∀ i, i < x.cps.size → okc (x.cps.getD i 0)) (hz : x.cps.size ≤ 1000) (h : Q .none s) :
    wpAny (model prog w) A (call (.builtin "re.Pattern.search") [.ref a, .str x t]) Q E s := by
  obtain ⟨o, oc, c, fs, items, n, ho, hcl, _, hd, h5, h6, hoc, hseq, rfl⟩ := P.out
  refine wpAny_call_entry pat_search ⟨o, ho, hcl⟩ pat_entry ?_ (pat_args _ _)
  unfold Builtin.«re.Pattern.search»
  obtain ⟨m, e, a1, a2, a3⟩ := fs_none h0 hs ht (reRawNat (fs.getD 2 .none))
  refine wpAny_bind ?_
  unfold reTarget
  dsimp only
  rw [named_search]
  refine wpAny_bind (wpAny_pure ?_)
  dsimp only
  refine wpAny_bind (wpAny_pure ?_)
  refine wpAny_bind (wpAny_pure ?_)
  refine wpAny_bind ?_
  unfold fieldsOf
  refine wpAny_bind (wpAny_load ho ?_)
  rw [hd]
  refine wpAny_pure ?_
  refine wpAny_bind (text_str ?_)
  rw [h6]
  have c1 : ((0 == 0 && (x.cps, 0).snd == 1) : Bool) = false := rfl
  have c2 : ((0 == 1 && (x.cps, 0).snd == 0) : Bool) = false := rfl
  simp only [c1, c2, Bool.false_eq_true, if_false]
  have c3 : reNoCollectionInside (.str x t) 0 = pure () := rfl
  rw [c3]
  refine wpAny_bind (wpAny_pure ?_)
  refine wpAny_bind ?_
  unfold reRawItems
  rw [h5]
  refine wpAny_bind ?_
  unfold seqItems?
  dsimp only
  refine wpAny_bind (wpAny_load hoc ?_)
  rw [hseq]
  refine wpAny_pure (wpAny_pure (wpAny_pure ?_))
  dsimp only [Option.getD_some]
  have c4 : Min.min (2 ^ 63 - 1 : Int).toNat x.cps.size = x.cps.size := Nat.min_eq_right (Nat.le_trans hz (by decide))
  have c5 : Min.min (Int.toNat 0) x.cps.size = 0 := Nat.zero_min _
  rw [c4, c5, e]
  exact answer_none a1 a2 a3 ⟨_, rfl, h⟩
theorem r_getsearch {code : Array Nat} {pl : Sem Bool} {Q : Value × List Value → Shared → Prop} (P : PatAt s.heap a code) (h : Q (.builtin "re.Pattern.search", [.ref a]) s) : wpAny (model prog w) A (getMethod (.ref a) "search" pl) Q E s := by
  obtain ⟨o, oc, c, fs, items, n, ho, hcl, hdn, _⟩ := P.out
  exact getMethod_builtin ⟨o, ho, hcl⟩ pat_plain pat_search pat_type (fun a e => by cases e; exact ⟨o, ho, hdn⟩) h
end
noncomputable def nameCode : Array Nat := #[14, 10, 4, 1, 1, 22, 0, 31, 16, 127, 0, 13, 7, 22, 0, 31, 16, 127, 0, 1]
noncomputable def valueCode : Array Nat := #[14, 14, 4, 1, 1, 9, 4294966783, 0, 0, 2147483648, 0, 0, 0, 0, 0, 13, 11, 9, 4294966783, 0, 0, 2147483648, 0, 0, 0, 0, 0, 1]
theorem name_set (c : Nat) (seen : Sre.Seen) (h : 32 ≤ c ∧ c ≤ 126) : ∃ seen', Sre.inSet nameCode c nameCode.size 5 true seen = .ok (false, seen') := by
  refine ⟨((seen.add 22).add 16).add 0, ?_⟩
  have e : Sre.inSet nameCode c nameCode.size 5 true seen = (if (decide (0 ≤ c) && decide (c ≤ 31)) = true then .ok (true, seen.add 22) else if (c == 127) = true then .ok (true, (seen.add 22).add 16) else .ok (false, ((seen.add 22).add 16).add 0)) := rfl
  rw [e, if_neg (by simp; omega), if_neg (by simp; omega)]
theorem value_bit : ∀ c, c < 127 → 32 ≤ c → (decide (c < 256) && (valueCode.getD (5 + (1 + c / 32)) 0).testBit (c % 32)) = false := by decide +kernel
theorem value_set (c : Nat) (seen : Sre.Seen) (h : 32 ≤ c ∧ c ≤ 126) : ∃ seen', Sre.inSet valueCode c valueCode.size 5 true seen = .ok (false, seen') := by
  refine ⟨(seen.add 9).add 0, ?_⟩
  have e : Sre.inSet valueCode c valueCode.size 5 true seen = (if (decide (c < 256) && (valueCode.getD (5 + (1 + c / 32)) 0).testBit (c % 32)) = true then .ok (true, seen.add 9) else .ok (false, (seen.add 9).add 0)) := rfl
  rw [e, value_bit c (by omega) h.1]
  rfl
noncomputable def HeadOk (x : Str) : Prop := (∀ i, i < x.cps.size → 32 ≤ x.cps.getD i 0 ∧ x.cps.getD i 0 ≤ 126) ∧ x.cps.size ≤ 1000
section
variable {prog : Program} {w : World} {A : Around} {E : Value → Shared → Prop} {s : Shared} {h₀ : Heap} {a c : Addr} {x : Str} {t : Tok}
theorem r_sname {Q : Value → Shared → Prop} (P : PatAt s.heap a nameCode) (hx : HeadOk x) (h : Q .none s) : wpAny (model prog w) A (call (.builtin "re.Pattern.search") [.ref a, .str x t]) Q E s :=
  r_search P rfl name_set hx.1 hx.2 h
theorem r_svalue {Q : Value → Shared → Prop} (P : PatAt s.heap a valueCode) (hx : HeadOk x) (h : Q .none s) : wpAny (model prog w) A (call (.builtin "re.Pattern.search") [.ref a, .str x t]) Q E s :=
  r_search P rfl value_set hx.1 hx.2 h
theorem patAt_K {K : Frag} {L : Addr} {m : Str → Option Value} {o oc : Obj} {fs items : Array Value} {n : Nat} {code : Array Nat} (F : Fr h₀ L s.heap m) (X : K.In h₀) (ho : K.lookup a = some o) (h1 : o.cls = .type "re.Pattern" ∧ o.dict = none) (hd : o.data = .fields fs) (h5 : fs.getD 5 .none = .ref c) (h6 : reRawNat (fs.getD 6 .none) = 0) (hoc : K.lookup c = some oc) (hs : oc.data = .seq items n) (hc : (items.map reRawOf).map (·.toNat) = code) : PatAt s.heap a code :=
  ⟨o, oc, c, fs, items, n, (X.keeps F.keep) _ _ ho, h1.1, h1.2, hd, h5, h6, (X.keeps F.keep) _ _ hoc, hs, hc⟩
end
end Mine
end
section
open PySem PySem.W PyProof.Rows
namespace Mine
local macro_rules | `(tactic| k_mem) => `(tactic| first | exact List.mem_cons_self .. | (refine List.mem_cons_of_mem _ ?_; k_mem))
local macro_rules | `(tactic| ktn_lt) => `(tactic| first
  | exact allLt_left (by assumption) | exact allLt_left (And.right (by assumption)) | exact allLt_left (And.right (And.right (by assumption))) | exact allLt_left (And.right (And.right (And.right (by assumption))))
  | exact allLt_left (allLt_of (by assumption)) | exact allLt_of (by assumption)
  | exact And.right (by assumption) | exact And.right (And.right (by assumption)) | exact And.right (And.right (And.right (by assumption))))
section Conv
variable {w : World} {p : Program} {loose : List Str} {mean : ExcName → Option Value} {mg mb : Str → Option Value}
local macro_rules | `(tactic| walk_at "ENTER") => `(tactic| (refine' code_def ?k1 ?k2 ?k3 ?k4 ?k5 ?kA ?kF ?kK ?k6 ?k7 ?k8 ?k9 ?kB ?_ ?c2 ?c3 ?c4 ?c5; (case kA => exact rfl); (case kF => exact rfl); (case kK => first | assumption | exact rfl); (case k1 => k_asm); (case k2 => k_asm); (case k3 => k_asm); (case k4 => k_asm); (case k5 => k_asm); (case k6 => k_is); (case k7 => k_is); (case k8 => ktr_room); (case k9 => first | exact BindsTo.of_eq rfl | exact binds_K (by k_in) rfl (by k_is) rfl rfl rfl); (case c5 => decide); (case kB => exact locs rfl); (case c2 => exact rfl); (case c3 => exact rfl); (case c4 => exact rfl); k_whole; intro _ _ _ _ _ _ _ _ _; (try dsimp only); (try k_fold)))
local macro_rules | `(tactic| walk_at "PAT") => `(tactic| (k_dflt (refine' patAt_K ?a1 ?a2 ?a3 ?a4 ?a5 ?a6 ?a7 ?a8 ?a9 ?a10); (case a1 => k_asm); (case a2 => k_asm); (case a3 => k_dflt k_is); (case a4 => exact ⟨rfl, rfl⟩); (case a5 => k_dflt rfl); (case a6 => k_dflt rfl); (case a7 => k_dflt rfl); (case a8 => k_dflt k_is); (case a9 => k_dflt rfl); (case a10 => decide +kernel)))
local macro_rules | `(tactic| walk_at "getMethod ref") => `(tactic| ((with_reducible show wpAny _ _ (getMethod (Value.ref 102) _ _) _ _ _); refine r_getsearch (code := nameCode) (by walk_at "PAT") ?_))
local macro_rules | `(tactic| walk_at "getMethod ref") => `(tactic| ((with_reducible show wpAny _ _ (getMethod (Value.ref 107) _ _) _ _ _); refine r_getsearch (code := valueCode) (by walk_at "PAT") ?_))
local macro_rules | `(tactic| walk_at "call builtin:re.Pattern.search") => `(tactic| ((with_reducible show wpAny _ _ (call _ [Value.ref 102, _]) _ _ _); refine r_sname (by walk_at "PAT") (by assumption) ?_))
local macro_rules | `(tactic| walk_at "call builtin:re.Pattern.search") => `(tactic| ((with_reducible show wpAny _ _ (call _ [Value.ref 107, _]) _ _ _); refine r_svalue (by walk_at "PAT") (by assumption) ?_))
noncomputable def ConvSpec (w : World) (p : Program) (loose : List Str) (mean : ExcName → Option Value) (mg mb : Str → Option Value) (b : Bool) : Prop :=
  ∀ {dp un : Nat} {gd : Option (List Code)} {cn : Str} {cs : Scope} {a : Addr} {ccd : Value} {cl : List (Str × Addr)} {outer : List Env} {A₀ : Around} {base h₀ : Heap} {L : Addr} {m : Str → Option Value} {news : List (Addr × Obj)} {s : Shared} {I : Addr} {x : Str} {t : Tok}
    {Q E : Value → Shared → Prop},
    Below A₀ base outer h₀ → Fr h₀ L s.heap m → (kmake.heap_1 w.params).In h₀ → News h₀ L s.heap news → Top p loose mean mg mb h₀ → cs.kind = .function → HeadOk x → dp + 20 < recursionLimit → un + 8 * 20 < cLine →
    (∀ h' tk', Fr h₀ L h' m → News h₀ L h' news → Q (.str x t) { s with heap := h', toks := tk' }) →
    wpAny (model PySem.Challenge.rw_we0032_01.row.prog w) (ktrTop dp un gd cn cs L a ccd cl outer) (call (.ref 129) [.ref I, .str x t] [(Str.ofString "name", .bool b)]) Q E s
theorem conv_spec : ∀ b, ConvSpec w p loose mean mg mb b := by
  w_top off
  intro b
  unfold ConvSpec
  intro dp un gd cn cs a ccd cl outer A₀ base h₀ L m news s I x t Q E B F X N T hk hok hd hu hret
  cases b
  all_goals (
    refine wpAny_call ?_
    k_dflt (walk_at "ENTER")
    k_steps
    exact hret _ _ (by k_asm) (by k_asm))
end Conv
end Mine
end
section
open PySem PySem.W PyProof.Rows PySem.NumText
namespace Mine
noncomputable def vtext (v : Int) : Str := Str.ofString (toString v)
theorem digs (m : Nat) : ∀ c ∈ (Nat.toDigits 10 m).map Char.toNat, 48 ≤ c ∧ c ≤ 57 := by
  intro c hc
  obtain ⟨ch, hch, e⟩ := List.mem_map.mp hc
  rw [← e]
  exact digit_range (Nat.isDigit_of_mem_toDigits (by decide) (by decide) hch)
theorem vtext_pos (m : Nat) : (vtext (m : Int)).cps.toList = (Nat.toDigits 10 m).map Char.toNat := KIN.signs_num m
theorem vtext_neg (m : Nat) : (vtext (Int.negSucc m)).cps.toList = 45 :: (Nat.toDigits 10 (m + 1)).map Char.toNat := by
  unfold vtext
  rw [signs_ofString]
  show ("-" ++ Nat.repr (m + 1)).toList.map Char.toNat = _
  rw [String.toList_append, Nat.toList_repr]
  rfl
theorem digits_len {m : Nat} (h : m < 10 ^ 10) : (Nat.toDigits 10 m).length ≤ 10 := by
  have := KT.len_num (n := (m : Int)) (by omega) (by omega)
  have e : (PySem.Str.ofString (toString (m : Int))).cps.toList.length = (Nat.toDigits 10 m).length := by rw [KIN.signs_num]; simp
  have : (PySem.Str.ofString (toString (m : Int))).cps.toList.length ≤ 10 := by rw [Array.length_toList]; exact this
  omega
theorem vtext_len {v : Int} (h1 : -536870912 ≤ v) (h2 : v ≤ 536870912) : (vtext v).length ≤ 11 := by
  show (vtext v).cps.size ≤ 11
  rw [← Array.length_toList]
  cases v with
  | ofNat m =>
    have : (vtext (m : Int)).cps.toList.length ≤ 11 := by
      rw [vtext_pos, List.length_map]
      have := digits_len (m := m) (by have : ((m : Nat) : Int) ≤ 536870912 := h2; omega)
      omega
    exact this
  | negSucc m =>
    rw [vtext_neg, List.length_cons, List.length_map]
    have := digits_len (m := m + 1) (by omega)
    omega
theorem vtext_int {v : Int} (h1 : -536870912 ≤ v) (h2 : v ≤ 536870912) : PySem.intText? (vtext v) = some v := by
  have hl := vtext_len h1 h2
  have hne : ∀ m, (Nat.toDigits 10 m).map Char.toNat ≠ [] := fun m e => by
    have h := toDigits_len_ge 10 m
    rw [List.map_eq_nil_iff.mp e] at h
    exact absurd h (by decide)
  cases v with
  | ofNat m =>
    have hp : (vtext (Int.ofNat m)).cps.toList = (Nat.toDigits 10 m).map Char.toNat := vtext_pos m
    have e := intText_digits (x := vtext (Int.ofNat m)) (by rw [hp]; exact digs m) (by rw [hp]; exact hne m) (by omega)
    rw [hp, KIN.val_back] at e
    exact e
  | negSucc m =>
    have e := intText_neg (x := vtext (Int.negSucc m)) (vtext_neg m) (digs (m + 1)) (hne (m + 1)) (by omega)
    rw [KIN.val_back] at e
    rw [e]
    rfl
theorem vtext_head {v : Int} (h1 : -536870912 ≤ v) (h2 : v ≤ 536870912) : HeadOk (vtext v) := by
  have hl := vtext_len h1 h2
  have hall : ∀ c ∈ (vtext v).cps.toList, 32 ≤ c ∧ c ≤ 126 := by
    intro c hc
    cases v with
    | ofNat m =>
      have hp : (vtext (Int.ofNat m)).cps.toList = (Nat.toDigits 10 m).map Char.toNat := vtext_pos m
      rw [hp] at hc
      have := digs m c hc
      omega
    | negSucc m =>
      rw [vtext_neg] at hc
      rcases List.mem_cons.mp hc with rfl | hc
      · omega
      · have := digs (m + 1) c hc
        omega
  refine ⟨fun i hi => hall _ ?_, ?_⟩
  · have : (vtext v).cps.getD i 0 = (vtext v).cps[i] := by simp [Array.getD, hi]
    rw [this]
    exact Array.mem_toList_iff.mpr (Array.getElem_mem hi)
  · have : (vtext v).cps.size = (vtext v).length := rfl
    omega
end Mine
end
section
open PySem PySem.W PyProof.Rows PyProof.Rows.LCg PyProof.Rows.LCt
namespace Mine
section
variable {prog : Program} {w : World} {A : Around} {s : Shared} {h₀ : Heap} {L : Addr} {m : Str → Option Value} {env : Env}
theorem CompEnd.imp {s₁ s₂ : Shared} {I C D : Addr} {oI oC oD : Obj} {S : List (Addr × Obj) → Prop} {rest rest' : Value → List (Addr × Obj) → Prop} {y : Value} (h : CompEnd h₀ L m s₁ I oI C oC D oD S rest y s₂) (k : ∀ y n, rest y n → rest' y n) : CompEnd h₀ L m s₁ I oI C oC D oD S rest' y s₂ := by
  obtain ⟨h', tk, n, e, F, N, o, hS, r⟩ := h
  exact ⟨h', tk, n, e, F, N, o, hS, k _ _ r⟩
theorem restT {ct elt : Expr} {x : Str} {scope : Scope} {cl : List (Str × Addr)} {S : List (Addr × Obj) → Prop} {V : Nat → Value → Prop} {Fin : List Value → List (Addr × Obj) → Prop} {n : Nat} (P : Nat → List Value → List (Addr × Obj) → Prop)
    (turn : ∀ i v ys news I oI C oC D m₂ h tk (E' : Value → Shared → Prop), i < n → V i v → P i ys news → NsObj oC m₂ → m₂ x = some v → Fr h₀ L h m → News h₀ L h ((I, oI) :: (C, oC) :: (D, lst ys) :: news) → Off3 I C D news → ((@Ne Nat I C) ∧ (@Ne Nat I D) ∧ (@Ne Nat C D)) →
      wpAny (model prog w) A (isTrue ct (compEnvC scope cl C env) (eval ct (compEnvC scope cl C env))) (fun ok s' => if ok = true then
        wpAny (model prog w) A (eval elt (compEnvC scope cl C env)) (CompEnd h₀ L m { s with heap := h, toks := tk } I oI C oC D (lst ys) S (fun y news' => P (i + 1) (ys ++ [y]) news')) E' s'
        else CompEnd h₀ L m { s with heap := h, toks := tk } I oI C oC D (lst ys) S (fun _ news' => P (i + 1) ys news') Value.none s') E' { s with heap := h, toks := tk })
    (fin : ∀ ys news, P n ys news → Fin ys news) :
    ∀ k i ys news, i + k = n → P i ys news → CompRestT prog w A h₀ L m env ct elt x scope cl s S V Fin k i ys news
  | 0, i, ys, news, e, h => CompRestT.zero (fin _ _ (by rw [← e]; exact h))
  | k + 1, i, ys, news, e, h => by
    refine CompRestT.succ fun v I oI C oC D m₂ hp tk E' hv hC hx F N o ne => ?_
    refine wpAny_mono (turn i v ys news I oI C oC D m₂ hp tk E' (by omega) hv h hC hx F N o ne) (fun ok s' q => ?_) fun _ _ z => z
    cases ok with
    | true =>
      simp only [if_true] at q ⊢
      exact wpAny_mono q (fun y s₂ r => CompEnd.imp r fun y n' hp' => restT P turn fin k (i + 1) (ys ++ [y]) n' (by omega) hp') fun _ _ z => z
    | false =>
      simp only [Bool.false_eq_true, if_false] at q ⊢
      exact CompEnd.imp q fun y n' hp' => restT P turn fin k (i + 1) ys n' (by omega) hp'
theorem restU {elt : Expr} {x : Str} {scope : Scope} {cl : List (Str × Addr)} {S : List (Addr × Obj) → Prop} {V : Nat → Value → Prop} {Fin : List Value → List (Addr × Obj) → Prop} {n : Nat} (P : Nat → List Value → List (Addr × Obj) → Prop)
    (turn : ∀ i v ys news I oI C oC D m₂ h tk (E' : Value → Shared → Prop), i < n → V i v → P i ys news → NsObj oC m₂ → m₂ x = some v → Fr h₀ L h m → News h₀ L h ((I, oI) :: (C, oC) :: (D, lst ys) :: news) → Off3 I C D news → ((@Ne Nat I C) ∧ (@Ne Nat I D) ∧ (@Ne Nat C D)) →
      wpAny (model prog w) A (eval elt (compEnvC scope cl C env)) (CompEnd h₀ L m { s with heap := h, toks := tk } I oI C oC D (lst ys) S (fun y news' => P (i + 1) (ys ++ [y]) news')) E' { s with heap := h, toks := tk })
    (fin : ∀ ys news, P n ys news → Fin ys news) :
    ∀ k i ys news, i + k = n → P i ys news → CompRest prog w A h₀ L m env elt x scope cl s S V Fin k i ys news
  | 0, i, ys, news, e, h => CompRest.zero (fin _ _ (by rw [← e]; exact h))
  | k + 1, i, ys, news, e, h => by
    refine CompRest.succ fun v I oI C oC D m₂ hp tk E' hv hC hx F N o ne => ?_
    exact wpAny_mono (turn i v ys news I oI C oC D m₂ hp tk E' (by omega) hv h hC hx F N o ne) (fun y s₂ r => CompEnd.imp r fun y n' hp' => restU P turn fin k (i + 1) (ys ++ [y]) n' (by omega) hp') fun _ _ z => z
theorem restP {elt : Expr} {x x₂ : Str} {scope : Scope} {cl : List (Str × Addr)} {S : List (Addr × Obj) → Prop} {V : Nat → Value → Prop} {Fin : List Value → List (Addr × Obj) → Prop} {n : Nat} (P : Nat → List Value → List (Addr × Obj) → Prop)
    (turn : ∀ i v ys news, i < n → V i v → P i ys news → ∃ (t : Addr) (ot : Obj) (v₁ v₂ : Value) (nt : Nat), v = .ref t ∧ (t, ot) ∈ news ∧ ot.cls = .type "tuple" ∧ ot.data = .seq #[v₁, v₂] nt ∧
      ∀ I oI C oC D m₂ h tk (E' : Value → Shared → Prop), NsObj oC m₂ → m₂ x = some v₁ → m₂ x₂ = some v₂ → Fr h₀ L h m → News h₀ L h ((I, oI) :: (C, oC) :: (D, lst ys) :: news) → Off3 I C D news → ((@Ne Nat I C) ∧ (@Ne Nat I D) ∧ (@Ne Nat C D)) →
      wpAny (model prog w) A (eval elt (compEnvC scope cl C env)) (CompEnd h₀ L m { s with heap := h, toks := tk } I oI C oC D (lst ys) S (fun y news' => P (i + 1) (ys ++ [y]) news')) E' { s with heap := h, toks := tk })
    (fin : ∀ ys news, P n ys news → Fin ys news) :
    ∀ k i ys news, i + k = n → P i ys news → LCp.CompRestP prog w A h₀ L m env elt x x₂ scope cl s S V Fin k i ys news
  | 0, i, ys, news, e, h => by
    unfold LCp.CompRestP
    exact fin _ _ (by rw [← e]; exact h)
  | k + 1, i, ys, news, e, h => by
    unfold LCp.CompRestP
    intro v hv
    obtain ⟨t, ot, v1, v2, nt, e1, e2, e3, e4, r⟩ := turn i v ys news (by omega) hv h
    refine ⟨t, ot, v1, v2, nt, e1, e2, e3, e4, fun I oI C oC D m₂ hp tk E' hC hx hx2 F N o ne => ?_⟩
    exact wpAny_mono (r I oI C oC D m₂ hp tk E' hC hx hx2 F N o ne) (fun y s₂ r => CompEnd.imp r fun y n' hp' => restP P turn fin k (i + 1) (ys ++ [y]) n' (by omega) hp') fun _ _ z => z
end
end Mine
end
section
open PySem PySem.W PyProof.Rows
namespace Mine
section
variable {prog : Program} {w : World} {A : Around} {E : Value → Shared → Prop} {s : Shared} {h₀ : Heap} {L H D : Addr} {m : Str → Option Value} {news : List (Addr × Obj)}
theorem setall_at {l sl d : Addr} {items new : Array Value} {n n2 : Nat} {Q : Unit → Shared → Prop} (ho : s.heap.get? l = some (W.listOf items n)) (hdo : s.heap.get? d = some (W.listOf new n2)) (hs : s.heap.IsSliceOf sl .none .none .none) (hld : l ≠ d) (hz : items.size ≤ 1000) (hz2 : new.size ≤ 1000)
    (hQ : ∀ f : Array Value → Array Value, f items = new → Q () { s with heap := s.heap.update l (Obj.mapSeq f) }) : wpAny (model prog w) A (setItem (.ref l) (.ref sl) (.ref d)) Q E s := by
  have hl : s.heap.IsList l items := PySem.IsL.isList (n := n) ho
  obtain ⟨os, hos, hcs, hds⟩ := id hs
  have hTs : s.TypeIs (.ref sl) "slice" := ⟨os, hos, hcs⟩
  have hTd : s.TypeIs (.ref d) "list" := (PySem.IsL.isList (n := n2) hdo).typeIs
  unfold setItem
  try with_reducible refine wpAny_holding ?_
  first | refine wpAny_bind (wpAny_pure ?_) | skip
  refine wpAny_bind (wpAny_sequenceKey hl.typeIs (by decide) ?_)
  refine wpAny_bind (wpAny_callSpecial?_slot (name := Str.ofString "__setitem__") hl.typeIs slot_list_setitem
    (wpAny_call_entry slot_list_setitem hl.typeIs entry_list_setitem ?_ (args_list_setitem _ _ _)))
  show wpAny _ _ (Builtin.List.listSubscript? (.ref sl) >>= _) _ _ s
  refine wpAny_bind ?_
  unfold Builtin.List.listSubscript?
  refine wpAny_bind (wpAny_specialOf hTs slice_no_index ?_)
  simp only [Option.isNone_none, if_true]
  refine wpAny_pure ?_
  show wpAny _ _ (typeOf (.ref sl) >>= _) _ _ s
  refine wpAny_bind (wpAny_typeOf hTs ?_)
  rw [if_neg (by decide)]
  rw [listSliceParts_eq]
  refine wpAny_bind (wpAny_bind (wpAny_field hos hds (x := .none) rfl (wpAny_bind (wpAny_listPart .none ?_))))
  rw [if_neg (by decide)]
  refine wpAny_bind (wpAny_field hos hds (x := .none) rfl (wpAny_bind (wpAny_listPart .none ?_)))
  refine wpAny_bind (wpAny_field hos hds (x := .none) rfl (wpAny_bind (wpAny_listPart .none (wpAny_pure ?_))))
  have hsame : Builtin.List.listSameRef (.ref l) (.ref d) = false := by simp [Builtin.List.listSameRef]; exact hld
  rw [hsame]
  simp only [Bool.false_eq_true, if_false]
  refine wpAny_bind ?_
  unfold Builtin.List.listAllItems
  refine wpAny_bind (wpAny_typeOf hTd ?_)
  rw [if_pos (by decide)]
  refine listItems_at hdo rfl ?_
  refine wpAny_bind (listItems_at ho rfl ?_)
  refine wpAny_bind (wpAny_of_eq (sliceIndices_raw none none none items.size (by simp)) ?_)
  have hb : sliceBounds none none none items.size = (0, (items.size : Int), 1) := rfl
  rw [hb]
  dsimp only
  rw [if_pos (by decide)]
  refine wpAny_bind (wpAny_rule ?_)
  have hlong : Builtin.List.listTooLong (items.size + new.size) = false := by
    have := sizeLine_eq
    unfold Builtin.List.listTooLong
    simp; omega
  rw [hlong]
  simp only [Bool.false_eq_true, if_false]
  refine wpAny_bind (listUpdate_at ho rfl ?_ (by have := sizeLine_eq; omega) ?_)
  · refine wpAny_bind (wpAny_letGo (wpAny_bind (wpAny_pure ?_)))
    refine wpAny_pure ⟨_, rfl, wpAny_pure (hQ _ ?_)⟩
    have e : (max 0 (items.size : Int)).toNat = items.size := by omega
    rw [e]
    apply Array.toList_inj.mp
    simp
  · have := sizeLine_eq
    simp; omega
theorem r_setall {items new : Array Value} {n n2 : Nat} {news' : List (Addr × Obj)} {Q : Unit → Shared → Prop} (F : Fr h₀ L s.heap m) (N : News h₀ L s.heap news) (hm : (D, W.listOf new n2) ∈ news) (hHD : H ≠ D) (hz : items.size ≤ 1000) (hz2 : new.size ≤ 1000)
    (U : Upd H (W.listOf items n) (W.listOf new (if new.size == items.size then n else n + 1)) news news') (h : ∀ h', Fr h₀ L h' m → News h₀ L h' news' → Q () { s with heap := h' }) :
    wpAny (model prog w) A (setItem (.ref H) (.ref s.heap.objs.size) (.ref D)) Q E { s with heap := s.heap.push { cls := .type "slice", data := .fields #[.none, .none, .none] } } := by
  have up : ∀ b o, s.heap.get? b = some o → (s.heap.push { cls := .type "slice", data := .fields #[.none, .none, .none] }).get? b = some o := fun b o e => Heap.get?_push_of_some _ e
  have F' := F.keeps up
  have N' := N.grown up
  obtain ⟨pre, post, rfl, rfl, a, b⟩ := U.split
  have z := N' (H, W.listOf items n) (List.mem_append.mpr (.inr (.head _)))
  refine setall_at z.1 (N' _ hm).1 (Heap.IsSliceOf.new ..) hHD hz hz2 ?_
  intro f hf
  exact h _ (F'.change (Heap.SameBut.update ..) z.2.1 z.2.2) (ki_turn _ N' a b hf rfl)
end
end Mine
end
section
open PySem PySem.W PyProof.Rows
namespace Mine
/-! a for that may return, over a list of the ledger, by a state of our own -/
theorem for_restR {prog : Program} {w : World} {A : Around} {E : Value → Shared → Prop} {Q : Flow → Shared → Prop} {s : Shared} {env : Env} {h₀ : Heap} {target : Expr} {body : List Stmt}
    {l I : Addr} {lo : Obj} {vs : List Value} {σ : Type} (Mp : σ → Str → Option Value) (Lg : σ → List (Addr × Obj)) (P : List Value → σ → Prop)
    (hLg : ∀ st done, P done st → (l, lo) ∈ Lg st)
    (turn : ∀ W I it done v rest st h tk, vs = done ++ v :: rest → FTo Mp Lg P h₀ env.locals { s with heap := h, toks := tk } I it (done ++ [v]) W → (∀ v s₃, Q (.ret v) s₃ → W (.ret v) s₃) → P done st → (∀ p ∈ Lg st, p.1 ≠ I) → Fr h₀ env.locals h (Mp st) → News h₀ env.locals h ((I, it) :: Lg st) →
      wpAny (model prog w) A (assign target env v) (fun _ s₂ => wpAny (model prog w) A (execs body env) W E s₂) E { s with heap := h, toks := tk })
    (fin : ∀ st h tk, P vs st → Fr h₀ env.locals h (Mp st) → News h₀ env.locals h (Lg st) → Q .next { s with heap := h, toks := tk }) :
    ∀ (rest done : List Value) (st : σ), vs = done ++ rest → P done st → (∀ p ∈ Lg st, p.1 ≠ I) → ItemsRest prog w A E h₀ env target body Q s [(I, "list_iterator")] [(l, lo)] (rest.map .val) (Mp st) (Lg st)
  | [], done, st, e, hP, _ => by
    rw [List.append_nil] at e
    subst e
    exact ItemsRest.zero fun h tk F N => fin st h tk hP F N
  | v :: rest, done, st, e, hP, ho => by
    refine ItemsRest.val fun h tk F => AllObj.cons fun it _ => AllObj.nil fun N => ?_
    refine wpAny_mono (turn (fun f s₃ => (∃ v, f = .ret v ∧ Q (.ret v) s₃) ∨ FEnd Mp Lg P h₀ env.locals { s with heap := h, toks := tk } I it (done ++ [v]) f s₃) I it done v rest st h tk e (fun h' tk st' a b c d => .inr (FEnd.to h' tk st' a b c d)) (fun v s₃ q => .inl ⟨v, rfl, q⟩) hP ho F N) (fun _ s₂ h₂ => wpAny_mono h₂ (fun f s₃ q => ?_) fun _ _ x => x) fun _ _ x => x
    rcases q with ⟨v, rfl, q⟩ | q
    · exact q
    obtain ⟨rfl, h', tk', st', rfl, F', N', ho', hP'⟩ := q
    refine ⟨h', tk', Mp st', Lg st', rfl, F', N', fun p hp q hq => ?_, ⟨hLg st' _ hP', trivial⟩, for_restR Mp Lg P hLg turn fin rest (done ++ [v]) st' (by rw [e, List.append_assoc]; rfl) hP' ho'⟩
    rw [List.mem_singleton.mp hq]
    exact ho' p hp
theorem for_stR {prog : Program} {w : World} {A : Around} {E : Value → Shared → Prop} {Q : Flow → Shared → Prop} {s : Shared} {env : Env} {h₀ : Heap} {target iter : Expr} {body : List Stmt} {pos : Pos} {m : Str → Option Value} {news : List (Addr × Obj)}
    {l : Addr} {n : Nat} {vs : List Value} (hh : A.handled = none) (F : Fr h₀ env.locals s.heap m) (N : News h₀ env.locals s.heap news)
    (hev : wpAny (model prog w) A (eval iter env) (fun v s' => v = .ref l ∧ ∃ tk, s' = { s with toks := tk }) E s)
    {σ : Type} (Mp : (Str → Option Value) → σ → Str → Option Value) (Lg : σ → List (Addr × Obj)) (P : List Value → σ → Prop) (st₀ : σ)
    (em : ∀ x, Mp m st₀ x = m x) (S : ∀ p ∈ Lg st₀, p ∈ news) (hP : P [] st₀)
    (hLg : ∀ st done, P done st → (l, W.listOf vs.toArray n) ∈ Lg st)
    (turn : ∀ W I it done v rest st h tk, vs = done ++ v :: rest → FTo (Mp m) Lg P h₀ env.locals { s with heap := h, toks := tk } I it (done ++ [v]) W → (∀ v s₃, Q (.ret v) s₃ → W (.ret v) s₃) → P done st → (∀ p ∈ Lg st, p.1 ≠ I) → Fr h₀ env.locals h (Mp m st) → News h₀ env.locals h ((I, it) :: Lg st) →
      wpAny (model prog w) A (assign target env v) (fun _ s₂ => wpAny (model prog w) A (execs body env) W E s₂) E { s with heap := h, toks := tk })
    (fin : ∀ st h tk, P vs st → Fr h₀ env.locals h (Mp m st) → News h₀ env.locals h (Lg st) → Q .next { s with heap := h, toks := tk })
    (hs : ∀ x, foldedSetIterable iter env x = pure x := by intro _; rfl)
    (hE : PassesOwn (model prog w) A env E := by passes_own) :
    wpAny (model prog w) A (exec (.For target iter body [] pos) env) Q E s := by
  refine For_turns F (wpAny_mono hev (fun v s₁ ⟨e1, tk0, e2⟩ => ?_) fun _ _ x => x) hs hE
  subst e1
  subst e2
  refine iter_listTurns (s := { s with toks := tk0 }) hh (Fr.congr F em) (newsOf N S) (hLg st₀ [] hP) rfl rfl fun I hI => ?_
  exact for_restR (s := { s with toks := tk0 }) (Mp m) Lg P hLg turn fin vs [] st₀ rfl hP fun p hp => Nat.ne_of_lt (hI p hp)
end Mine
end
section
open PySem PySem.W PyProof.Rows
namespace Mine
noncomputable def lowc (c : Nat) : Nat := if c < 97 then c + 32 else c
noncomputable def LetC (c : Nat) : Prop := c = 97 ∨ c = 98 ∨ c = 99 ∨ c = 65 ∨ c = 66 ∨ c = 67
/-! the reader of a program as a machine over signs -/
structure MSt where
  tbl : List (Nat × Int)
  most : Nat
  names : List Nat
  deed : Int
noncomputable def tdel (t : List (Nat × Int)) (c : Nat) : List (Nat × Int) := t.filter fun q => !(lowc q.1 == lowc c)
noncomputable def tset (t : List (Nat × Int)) (c : Nat) (v : Int) : List (Nat × Int) := tdel t c ++ [(c, v)]
noncomputable def Small (v : Int) : Prop := -536870912 ≤ v ∧ v ≤ 536870912
inductive Step : MSt → Int → MSt → Prop
  | name {t : List (Nat × Int)} {m : Nat} {ns : List Nat} {d : Int} (c : Nat) (hc : c < 128) (hn : ns.length < 2) : Step ⟨t, m, ns, d⟩ ((c : Int) + 256) ⟨t, m, ns ++ [c], d⟩
  | deed {t : List (Nat × Int)} {m : Nat} {ns : List Nat} {d z : Int} (h0 : z ≠ 0) (h1 : z < 256) (h2 : z ≠ 12) : Step ⟨t, m, ns, d⟩ z ⟨t, m, ns, z⟩
  | lay {t : List (Nat × Int)} {m a b : Nat} {v : Int} (ha : LetC a) (hl : t.length ≤ 8) (h0 : 0 ≤ v) (h9 : v ≤ 9) (hb : b = 48 + v.toNat) : Step ⟨t, m, [a, b], 22⟩ 12 ⟨tset t a v, max m (tset t a v).length, [], 22⟩
  | op {t : List (Nat × Int)} {m a b : Nat} {x y : Int} {o : Op} {c1 c2 : Nat} (ha : LetC a) (hb : LetC b) (hl : t.length ≤ 8) (fx : t.find? (fun q => lowc q.1 == lowc a) = some (c1, x)) (fy : t.find? (fun q => lowc q.1 == lowc b) = some (c2, y))
      (sx : Small x) (sy : Small y) (so : Small (o.app x y)) : Step ⟨t, m, [a, b], o.deed⟩ 12 ⟨tdel (tset t a (o.app x y)) b, max m (tdel (tset t a (o.app x y)) b).length, [], o.deed⟩
inductive Run : MSt → List Int → MSt → Prop
  | nil {st : MSt} : Run st [] st
  | cons {st st' st'' : MSt} {z : Int} {zs : List Int} (h : Step st z st') (r : Run st' zs st'') : Run st (z :: zs) st''
theorem Run.append {s1 s2 s3 : MSt} {a b : List Int} (h : Run s1 a s2) (k : Run s2 b s3) : Run s1 (a ++ b) s3 := by
  induction h with
  | nil => exact k
  | cons h _ ih => exact .cons h (ih k)
noncomputable def texts (t : List (Nat × Int)) : List (Nat × Str) := t.map fun q => (q.1, vtext q.2)
theorem texts_len (t : List (Nat × Int)) : (texts t).length = t.length := by simp [texts]
theorem texts_del (t : List (Nat × Int)) (c : Nat) : (texts t).filter (fun q => !(lowc q.1 == lowc c)) = texts (tdel t c) := by
  unfold texts tdel
  rw [List.filter_map]
  rfl
theorem texts_set (t : List (Nat × Int)) (c : Nat) (v : Int) : (texts t).filter (fun q => !(lowc q.1 == lowc c)) ++ [(c, vtext v)] = texts (tset t c v) := by
  rw [texts_del]
  simp [texts, tset]
theorem texts_find {t : List (Nat × Int)} {c c1 : Nat} {x : Int} (h : t.find? (fun q => lowc q.1 == lowc c) = some (c1, x)) : (texts t).find? (fun q => lowc q.1 == lowc c) = some (c1, vtext x) := by
  unfold texts
  rw [List.find?_map]
  have : ((fun q : Nat × Str => lowc q.1 == lowc c) ∘ fun q : Nat × Int => (q.1, vtext q.2)) = fun q : Nat × Int => lowc q.1 == lowc c := rfl
  rw [this, h]; rfl
theorem tdel_len (t : List (Nat × Int)) (c : Nat) : (tdel t c).length ≤ t.length := List.length_filter_le _ _
theorem tset_len (t : List (Nat × Int)) (c : Nat) (v : Int) : (tset t c v).length ≤ t.length + 1 := by
  have := tdel_len t c
  simp [tset]; omega
theorem vtext_digit {v : Int} (h0 : 0 ≤ v) (h9 : v ≤ 9) : vtext v = tx [48 + v.toNat] := by
  have : v = 0 ∨ v = 1 ∨ v = 2 ∨ v = 3 ∨ v = 4 ∨ v = 5 ∨ v = 6 ∨ v = 7 ∨ v = 8 ∨ v = 9 := by omega
  rcases this with rfl | rfl | rfl | rfl | rfl | rfl | rfl | rfl | rfl | rfl <;> decide +kernel
section
variable {prog : Program} {w : World} {A : Around} {E : Value → Shared → Prop} {s : Shared} {h₀ : Heap} {L P : Addr} {news : List (Addr × Obj)} {its : Array Value} {n k : Nat} {t u : Tok} {Q : Value → Shared → Prop}
theorem r_nth {value slice : Expr} {x : Value} (N : News h₀ L s.heap news) (hm : (P, W.listOf its n) ∈ news) (hx : its[k]? = some x) (hk : k ≤ 1000) (h : Q x s)
    (hs : subscripted slice false (.ref P) (.int (k : Int) u) = operate [.ref P, .int (k : Int) u] (getItem (.ref P) (.int (k : Int) u)) := by with_unfolding_all rfl) (hg : ∀ r, letTemporaryGo value (.ref P) r = pure () := by intro _; with_unfolding_all rfl) :
    wpAny (model prog w) A (subscriptTail value slice (.ref P) (.int (k : Int) u)) Q E s := by
  obtain ⟨hlt, _⟩ := Array.getElem?_eq_some_iff.mp hx
  exact item_list (N.isList hm) (by omega) (by omega) (by rw [Int.toNat_natCast]; exact hx) h hs hg
end
end Mine
end
section
open PySem PySem.W PyProof.Rows
namespace Mine
local macro_rules | `(tactic| walk_at "PAD") => `(tactic| skip)
local macro_rules | `(tactic| k_mem) => `(tactic| first | exact List.mem_cons_self .. | (refine List.mem_cons_of_mem _ ?_; k_mem))
local macro_rules | `(tactic| ktn_lt) => `(tactic| first
  | exact allLt_left (by assumption) | exact allLt_left (And.right (by assumption)) | exact allLt_left (And.right (And.right (by assumption))) | exact allLt_left (And.right (And.right (And.right (by assumption))))
  | exact allLt_left (allLt_of (by assumption)) | exact allLt_of (by assumption)
  | exact And.right (by assumption) | exact And.right (And.right (by assumption)) | exact And.right (And.right (And.right (by assumption))))
inductive HIn (news : List (Addr × Obj)) : List Value → List (Nat × Str) → Prop
  | nil : HIn news [] []
  | cons {a : Addr} {c : Nat} {x y : Str} {t1 t2 : Tok} {n : Nat} {vs : List Value} {ps : List (Nat × Str)} : (a, ({ cls := .type "tuple", data := .seq #[.str x t1, .str y t2] n } : Obj)) ∈ news → x = tx [c] → LetC c → HIn news vs ps → HIn news (.ref a :: vs) ((c, y) :: ps)
theorem HIn.mono {news news' : List (Addr × Obj)} {vs : List Value} {ps : List (Nat × Str)} (h : HIn news vs ps) (hs : ∀ p ∈ news, p ∈ news') : HIn news' vs ps := by
  induction h with
  | nil => exact .nil
  | cons hm e hc _ ih => exact .cons (hs _ hm) e hc ih
theorem HIn.length {news : List (Addr × Obj)} {vs : List Value} {ps : List (Nat × Str)} (h : HIn news vs ps) : vs.length = ps.length := by
  induction h with
  | nil => rfl
  | cons _ _ _ _ ih => simp [ih]
theorem HIn.get {news : List (Addr × Obj)} {vs : List Value} {ps : List (Nat × Str)} (h : HIn news vs ps) : ∀ {i : Nat} {v : Value}, vs[i]? = some v →
    ∃ a c x y t1 t2 n, v = .ref a ∧ ps[i]? = some (c, y) ∧ (a, ({ cls := .type "tuple", data := .seq #[.str x t1, .str y t2] n } : Obj)) ∈ news ∧ x = tx [c] ∧ LetC c := by
  induction h with
  | nil => intro i v hv; simp at hv
  | @cons a c x y t1 t2 n vs ps hm e hc _ ih =>
    intro i v hv
    cases i with
    | zero => simp at hv; exact ⟨a, c, x, y, t1, t2, n, hv.symm, rfl, hm, e, hc⟩
    | succ i => simp at hv; simpa using ih hv
theorem HIn.snoc {news : List (Addr × Obj)} {vs : List Value} {ps : List (Nat × Str)} {a : Addr} {c : Nat} {x y : Str} {t1 t2 : Tok} {n : Nat} (h : HIn news vs ps) (hm : (a, ({ cls := .type "tuple", data := .seq #[.str x t1, .str y t2] n } : Obj)) ∈ news) (hx : x = tx [c]) (hc : LetC c) : HIn news (vs ++ [.ref a]) (ps ++ [(c, y)]) := by
  induction h with
  | nil => exact .cons hm hx hc .nil
  | cons hm' e hc' _ ih => exact .cons hm' e hc' ih
theorem HIn.keep {news : List (Addr × Obj)} {ys : List Value} {tbl : List (Nat × Str)} {f : Nat × Str → Bool} {i : Nat} {a : Addr} {c : Nat} {x y : Str} {t1 t2 : Tok} {n : Nat} (h : HIn news ys ((tbl.take i).filter f)) (hp : tbl[i]? = some (c, y)) (hm : (a, ({ cls := .type "tuple", data := .seq #[.str x t1, .str y t2] n } : Obj)) ∈ news) (hx : x = tx [c]) (hc : LetC c) (hf : f (c, y) = true) : HIn news (ys ++ [.ref a]) ((tbl.take (i + 1)).filter f) := by
  rw [List.take_add_one, hp, List.filter_append]
  simp only [Option.toList_some, List.filter_cons, hf, if_true, List.filter_nil]
  exact h.snoc hm hx hc
theorem HIn.drop {news : List (Addr × Obj)} {ys : List Value} {tbl : List (Nat × Str)} {f : Nat × Str → Bool} {i : Nat} {q : Nat × Str} (h : HIn news ys ((tbl.take i).filter f)) (hp : tbl[i]? = some q) (hf : f q = false) : HIn news ys ((tbl.take (i + 1)).filter f) := by
  rw [List.take_add_one, hp, List.filter_append]
  simp only [Option.toList_some, List.filter_cons, hf, Bool.false_eq_true, if_false, List.filter_nil, List.append_nil]
  exact h
theorem tx_ne {a b : Nat} : (tx [a] != tx [b]) = !(a == b) := by
  by_cases h : a = b
  · subst h; simp
  · have h2 : tx [a] ≠ tx [b] := fun e => h (by have := congrArg (fun x : Str => x.cps.toList) e; simpa using this)
    rw [beq_eq_false_iff_ne.mpr h, bne_iff_ne.mpr h2]; rfl
theorem r_lower {prog : Program} {w : World} {A : Around} {E : Value → Shared → Prop} {s : Shared} {x : Str} {t : Tok} {c : Nat} {Q : Value → Shared → Prop} (hx : x = tx [c]) (hc : LetC c) (h : Q (.str (tx [lowc c]) s.toks) { s with toks := s.toks + 1 }) : wpAny (model prog w) A (call (.builtin "str.lower") [.str x t]) Q E s := by
  subst hx
  refine SCL.lower (by rw [tx_length]; simp) (fun _ => ?_)
  have e : Txt.lower (tx [c]) = tx [lowc c] := by rcases hc with rfl | rfl | rfl | rfl | rfl | rfl <;> decide +kernel
  rw [e]; exact h
section Conv
variable {w : World} {p : Program} {loose : List Str} {mean : ExcName → Option Value} {mg mb : Str → Option Value}
local macro_rules | `(tactic| walk_at "ENTER") => `(tactic| (refine' code_def ?k1 ?k2 ?k3 ?k4 ?k5 ?kA ?kF ?kK ?k6 ?k7 ?k8 ?k9 ?kB ?_ ?c2 ?c3 ?c4 ?c5; (case kA => exact rfl); (case kF => exact rfl); (case kK => first | assumption | exact rfl); (case k1 => k_asm); (case k2 => k_asm); (case k3 => k_asm); (case k4 => k_asm); (case k5 => k_asm); (case k6 => k_is); (case k7 => k_is); (case k8 => ktr_room); (case k9 => first | exact BindsTo.of_eq rfl | exact binds_K (by k_in) rfl (by k_is) rfl rfl rfl); (case c5 => decide); (case kB => exact locs rfl); (case c2 => exact rfl); (case c3 => exact rfl); (case c4 => exact rfl); k_whole; intro _ _ _ _ _ _ _ _ _; (try dsimp only); (try k_fold)))
local macro_rules | `(tactic| walk_at "ENTERC") => `(tactic| (refine' code_defC ?k1 ?k2 ?k3 ?k4 ?k5 ?kA ?kF ?kK ?k6 ?k7 ?k8 ?k9 ?kB ?kD ?_ ?c2 ?c3 ?c4; (case kA => exact rfl); (case kF => exact rfl); (case kK => first | assumption | exact rfl); (case k1 => k_asm); (case k2 => k_asm); (case k3 => k_asm); (case k4 => k_asm); (case k5 => k_asm); (case k6 => k_is); (case k7 => k_is); (case k8 => ktr_room); (case k9 => first | exact BindsTo.of_eq rfl | exact binds_K (by k_in) rfl (by k_is) rfl rfl rfl); (case kB => exact rfl); (case kD => decide +kernel); (case c2 => exact rfl); (case c3 => exact rfl); (case c4 => exact rfl); k_whole; intro g' L' h' tk' cells' FG' F' N' Y' B' X' T' l1; (try k_lt l1); k_cells Y'; (try simp only [List.cons_append, List.nil_append] at N'); (try dsimp only); (try k_fold)))
noncomputable abbrev hdict (w : World) (H : Addr) (kt : Tok) : Obj := dictOf [{ hash := PyData.keyHash w.params (Str.ofString "_headers"), key := Value.str (Str.ofString "_headers") kt, val := Value.ref H }] 1
noncomputable def DelSpec (w : World) (p : Program) (loose : List Str) (mean : ExcName → Option Value) (mg mb : Str → Option Value) : Prop :=
  ∀ {dp un : Nat} {gd : Option (List Code)} {cn : Str} {cs : Scope} {a : Addr} {ccd : Value} {cl : List (Str × Addr)} {outer : List Env} {A₀ : Around} {base h₀ : Heap} {L : Addr} {m : Str → Option Value} {news : List (Addr × Obj)} {s : Shared} {I D H : Addr} {x : Str} {t kt : Tok} {c : Nat}
    {its : List Value} {n : Nat} {tbl : List (Nat × Str)}
    {Q E : Value → Shared → Prop},
    Below A₀ base outer h₀ → Fr h₀ L s.heap m → (kmake.heap_1 w.params).In h₀ → News h₀ L s.heap ((I, instObj 230 D) :: (D, hdict w H kt) :: (H, listOf its.toArray n) :: news) → Top p loose mean mg mb h₀ → cs.kind = .function →
    (∀ p ∈ news, p.1 ≠ H) → @Ne Nat I H → @Ne Nat D H → x = tx [c] → LetC c → HIn news its tbl → tbl.length ≤ 10 →
    dp + 30 < recursionLimit → un + 8 * 30 < cLine →
    (∀ ys n' h' tk', Fr h₀ L h' m → News h₀ L h' ((I, instObj 230 D) :: (D, hdict w H kt) :: (H, W.listOf (List.toArray ys) n') :: news) → HIn news ys (tbl.filter fun q => !(lowc q.1 == lowc c)) → Q .none { s with heap := h', toks := tk' }) →
    wpAny (model PySem.Challenge.rw_we0032_01.row.prog w) (ktrTop dp un gd cn cs L a ccd cl outer) (call (.ref 148) [.ref I, .str x t]) Q E s
local macro_rules | `(tactic| walk_at "call builtin:str.lower") => `(tactic| refine r_lower (by assumption) (by assumption) ?_)
theorem head_let {c : Nat} (h : LetC c) : HeadOk (tx [c]) := by rcases h with rfl | rfl | rfl | rfl | rfl | rfl <;> exact ⟨by decide, by decide⟩
theorem let_low {c : Nat} (h : LetC c) : LetC (lowc c) := by rcases h with rfl | rfl | rfl | rfl | rfl | rfl <;> (unfold LetC lowc; decide)
local macro_rules | `(tactic| walk_at "call ref") => `(tactic| ((with_reducible show wpAny _ _ (call (Value.ref 129) _ _) _ _ _); k_dflt (refine conv_spec _ (by k_asm) (by k_asm) (by k_asm) (by k_asm) (by k_asm) (by first | assumption | exact rfl) (by first | exact head_let (by assumption) | exact head_let (let_low (by assumption)) | assumption) (by ktr_room) (by ktr_units) ?_); intro h' tk' F' N'; (try k_sweep)))
local macro_rules | `(tactic| k_all) => `(tactic| first | assumption | exact List.forall_mem_append.mpr ⟨by k_all, by k_all⟩ | exact List.forall_mem_cons.mpr ⟨by first | assumption | k_ne, by k_all⟩)
local macro_rules | `(tactic| walk_at "eval ListComp") => `(tactic| refine hold ?_)
local macro_rules | `(tactic| walk_at "setItem ref ref") => `(tactic| (refine' r_setall ?F ?N ?m ?ne ?z1 ?z2 ?U ?_; (case F => k_asm); (case N => k_asm); (case m => k_mem); (case ne => k_ne); (case U => k_upd); (case z1 => simp; omega); (case z2 => simp; omega); intro h' F' N'; (try dsimp only at N'); (try k_sweep)))
theorem del_spec : DelSpec w p loose mean mg mb := by
  w_top off
  unfold DelSpec
  intro dp un gd cn cs a ccd cl outer A₀ base h₀ L m news s I D H x t kt c its n tbl Q E B F X N T hk hnH hIH hDH hx hc hin hz hd hu hret
  refine wpAny_call ?_
  k_dflt (walk_at "ENTERC")
  obtain ⟨l1, l2, l3, l4⟩ := ‹_ ∧ _ ∧ _ ∧ AllLt _ news›
  have hc0 := fun p hp => Nat.ne_of_lt (Nat.lt_succ_of_lt (ktn_ltOf l4 p hp))
  have hc1 := Nat.ne_of_lt (Nat.lt_succ_of_lt l1)
  have hc2 := Nat.ne_of_lt (Nat.lt_succ_of_lt l2)
  have hc3 := Nat.ne_of_lt (Nat.lt_succ_of_lt l3)
  k_steps
  unfold Hold
  k_dflt (refine LCt.ListComp_T (F₀ := by k_asm) (by with_unfolding_all rfl) (by decide) (by rfl) (by decide) (by rfl) ?_)
  k_steps
  (rename Fr _ _ _ _ => hF; rename News _ _ _ _ => hN)
  have hlen := hin.length
  refine LCt.CompSrcT.ledger (by rfl) hF hN (by k_mem) (by rw [sizeLine_eq]; simp; omega) ?_
  intro g
  rename_i L1 h1 tk1 FG B1 X1 T1 la o0 d0 h2 tk2 h3 o1 d1
  refine restT (fun i ys (nw : List (Addr × Obj)) => nw = (L1 + 1, o1) :: (I, instObj 230 D) :: (D, hdict w H kt) :: (H, W.listOf its.toArray n) :: news ∧ HIn news ys ((tbl.take i).filter fun q => !(lowc q.1 == lowc c))) ?_ ?_ _ 0 [] _ (Nat.zero_add _) ⟨rfl, .nil⟩
  · clear hF hN
    rintro i v ys nw I5 oI C5 oC D5 m5 h5 tk5 E5 hi hv ⟨rfl, hys⟩ hC hxx hF hN hoff hne
    obtain ⟨a6, c6, x6, y6, t6, t7, n6, rfl, hps, hm6, hx6, hc6⟩ := hin.get (i := i) (v := v) (by simpa using hv)
    have hlow := let_low hc6
    k_steps
    · rename_i hcmp
      exact LCg.CompEnd.intro hF hN _ (fun _ h => h) hoff (.inr ⟨_, by k_mem, rfl, _, rfl⟩) ⟨rfl, hys.keep hps hm6 hx6 hc6 (by rw [← tx_ne]; exact hcmp)⟩
    · rename_i hcmp
      exact LCg.CompEnd.intro hF hN _ (fun _ h => h) hoff (.inr ⟨_, by k_mem, rfl, _, rfl⟩) ⟨rfl, hys.drop hps (by rw [← tx_ne]; simpa using hcmp)⟩
  · clear hF hN
    rintro ys nw ⟨rfl, hys⟩
    rw [List.take_of_length_le (by simp; omega)] at hys
    unfold LCg.FinE
    intro D7 h7 tk7 hF hN off7
    simp only [LCg.Off1] at off7
    have hylen := hys.length
    have hfl := List.length_filter_le (fun q : Nat × Str => !(lowc q.1 == lowc c)) tbl
    k_steps
    (rename Fr h₀ _ _ _ => hF; rename News h₀ _ _ _ => hN)
    exact hret _ _ _ _ hF (newsOf hN (lSkip (lSkip lAll))) hys
end Conv
end Mine
end
section
open PySem PySem.W PyProof.Rows
namespace Mine
local macro_rules | `(tactic| k_mem) => `(tactic| first | exact List.mem_cons_self .. | (refine List.mem_cons_of_mem _ ?_; k_mem))
local macro_rules | `(tactic| ktn_lt) => `(tactic| first
  | exact allLt_left (by assumption) | exact allLt_left (And.right (by assumption)) | exact allLt_left (And.right (And.right (by assumption))) | exact allLt_left (And.right (And.right (And.right (by assumption))))
  | exact allLt_left (allLt_of (by assumption)) | exact allLt_of (by assumption)
  | exact And.right (by assumption) | exact And.right (And.right (by assumption)) | exact And.right (And.right (And.right (by assumption))))
section Conv
variable {w : World} {p : Program} {loose : List Str} {mean : ExcName → Option Value} {mg mb : Str → Option Value}
local macro_rules | `(tactic| walk_at "ENTER") => `(tactic| (refine' code_def ?k1 ?k2 ?k3 ?k4 ?k5 ?kA ?kF ?kK ?k6 ?k7 ?k8 ?k9 ?kB ?_ ?c2 ?c3 ?c4 ?c5; (case kA => exact rfl); (case kF => exact rfl); (case kK => first | assumption | exact rfl); (case k1 => k_asm); (case k2 => k_asm); (case k3 => k_asm); (case k4 => k_asm); (case k5 => k_asm); (case k6 => k_is); (case k7 => k_is); (case k8 => ktr_room); (case k9 => first | exact BindsTo.of_eq rfl | exact binds_K (by k_in) rfl (by k_is) rfl rfl rfl); (case c5 => decide); (case kB => exact locs rfl); (case c2 => exact rfl); (case c3 => exact rfl); (case c4 => exact rfl); k_whole; intro _ _ _ _ _ _ _ _ _; (try dsimp only); (try k_fold)))
theorem ksp_delItem {M : Model} {A : Around} {E : Value → Shared → Prop} {s : Shared} {K : Frag} {x C L f : Addr} {h₀ : Heap} {m : Str → Option Value} {ox : Obj} {od : Option Obj} {i : Value} {Q : Unit → Shared → Prop} (F : Fr h₀ L s.heap m) (X₀ : K.In h₀) (I : InstAt s.heap x ox C od) (hq : noSeq K C = true) (hs : findIn K (.ref C) "__delitem__" = some (some (.ref f))) (hf : isFn K (.ref f) = true)
    (h : wpAny M A (call (.ref f) [.ref x, i]) (fun _ s' => Q () s') E s) : wpAny M A (delItem (.ref x) i) Q E s := by
  have X := X₀.keeps F.keep
  unfold delItem sequenceKey
  refine wpAny_holding (wpAny_bind (wpAny_bind (I.type.here ?_)))
  refine wpAny_bind ((anyM_none X hq).here ?_)
  rw [if_pos (show (!false) = true from rfl)]
  exact wpAny_pure (wpAny_bind (special_fn X I hs (beq_iff_eq.mp hf) (wpAny_mono h (fun _ _ z => wpAny_pure z) fun _ _ z => z)))
theorem lRot3 {a b c d : Addr × Obj} {l : List (Addr × Obj)} : ∀ p ∈ a :: b :: c :: d :: l, p ∈ d :: a :: b :: c :: l := fun p hp => by
  simp only [List.mem_cons] at hp ⊢
  rcases hp with h | h | h | h | h <;> simp only [h, true_or, or_true]
noncomputable def SetSpec (w : World) (p : Program) (loose : List Str) (mean : ExcName → Option Value) (mg mb : Str → Option Value) : Prop :=
  ∀ {dp un : Nat} {gd : Option (List Code)} {cn : Str} {cs : Scope} {a : Addr} {ccd : Value} {cl : List (Str × Addr)} {outer : List Env} {A₀ : Around} {base h₀ : Heap} {L : Addr} {m : Str → Option Value} {news : List (Addr × Obj)} {s : Shared} {I D H : Addr} {x y : Str} {t u kt : Tok} {c : Nat}
    {its : List Value} {n : Nat} {tbl : List (Nat × Str)}
    {Q E : Value → Shared → Prop},
    Below A₀ base outer h₀ → Fr h₀ L s.heap m → (kmake.heap_1 w.params).In h₀ → News h₀ L s.heap ((I, instObj 230 D) :: (D, hdict w H kt) :: (H, W.listOf its.toArray n) :: news) → Top p loose mean mg mb h₀ → cs.kind = .function →
    (∀ p ∈ news, p.1 ≠ H) → @Ne Nat I H → @Ne Nat D H → x = tx [c] → LetC c → HeadOk y → HIn news its tbl → tbl.length ≤ 10 →
    dp + 50 < recursionLimit → un + 8 * 50 < cLine →
    (∀ ys n' a t1 t2 k h' tk', Fr h₀ L h' m → News h₀ L h' ((I, instObj 230 D) :: (D, hdict w H kt) :: (H, W.listOf (List.toArray ys) n') :: (a, ({ cls := .type "tuple", data := .seq #[.str x t1, .str y t2] k } : Obj)) :: news) → @Ne Nat a H → AllLt a news → HIn ((a, ({ cls := .type "tuple", data := .seq #[.str x t1, .str y t2] k } : Obj)) :: news) ys ((tbl.filter fun q => !(lowc q.1 == lowc c)) ++ [(c, y)]) → Q .none { s with heap := h', toks := tk' }) →
    wpAny (model PySem.Challenge.rw_we0032_01.row.prog w) (ktrTop dp un gd cn cs L a ccd cl outer) (call (.ref 143) [.ref I, .str x t, .str y u]) Q E s
local macro_rules | `(tactic| k_all) => `(tactic| first | assumption | exact List.forall_mem_append.mpr ⟨by k_all, by k_all⟩ | exact List.forall_mem_cons.mpr ⟨by first | assumption | k_ne, by k_all⟩)
local macro_rules | `(tactic| walk_at "delItem ref str") => `(tactic| (k_dflt (refine' ksp_delItem ?F ?X ?I ?hQ ?hS ?hF ?_; (case F => k_asm); (case X => k_asm); (case I => k_inst); (case hS => k_is); (case hF => k_is); (case hQ => k_is); k_whole)))
local macro_rules | `(tactic| walk_at "call ref") => `(tactic| ((with_reducible show wpAny _ _ (call (Value.ref 129) _ _) _ _ _); k_dflt (refine conv_spec _ (by k_asm) (by k_asm) (by k_asm) (by k_asm) (by k_asm) (by first | assumption | exact rfl) (by first | assumption | (subst_vars; first | exact head_let (by assumption) | exact head_let (let_low (by assumption)))) (by ktr_room) (by ktr_units) ?_); intro h' tk' F' N'; (try k_sweep)))
local macro_rules | `(tactic| walk_at "call ref") => `(tactic| ((with_reducible show wpAny _ _ (call (Value.ref 148) _ _) _ _ _); k_dflt (refine hold ?_)))
theorem set_spec : SetSpec w p loose mean mg mb := by
  w_top off
  unfold SetSpec
  intro dp un gd cn cs a ccd cl outer A₀ base h₀ L m news s I D H x y t u kt c its n tbl Q E B F X N T hk hnH hIH hDH hx hc hy hin hz hd hu hret
  refine wpAny_call ?_
  k_dflt (walk_at "ENTER")
  k_steps
  unfold Hold
  refine del_spec (by k_asm) (by k_asm) (by k_asm) (by k_asm) (by k_asm) (by first | assumption | exact rfl) hnH hIH hDH hx hc hin hz (by ktr_room) (by ktr_units) ?_
  intro ys n' h9 tk9 F9 N9 hys
  have hylen := hys.length
  have hfl := List.length_filter_le (fun q : Nat × Str => !(lowc q.1 == lowc c)) tbl
  k_steps
  (rename Fr h₀ _ _ _ => hF; rename News h₀ _ _ _ => hN)
  simp only [List.push_toArray] at hN
  exact hret (ys ++ [_]) _ _ _ _ _ _ _ hF (newsOf hN lRot3) (by k_ne) (‹_ ∧ _ ∧ _ ∧ AllLt _ news›.2.2.2) ((hys.mono (lSkip lAll)).snoc (.head _) hx hc)
end Conv
end Mine
end
section
open PySem PySem.W PyProof.Rows
namespace Mine
local macro_rules | `(tactic| walk_at "PAD") => `(tactic| skip)
local macro_rules | `(tactic| k_mem) => `(tactic| first | exact List.mem_cons_self .. | (refine List.mem_cons_of_mem _ ?_; k_mem))
local macro_rules | `(tactic| ktn_lt) => `(tactic| first
  | exact allLt_left (by assumption) | exact allLt_left (And.right (by assumption)) | exact allLt_left (And.right (And.right (by assumption))) | exact allLt_left (And.right (And.right (And.right (by assumption))))
  | exact allLt_left (allLt_of (by assumption)) | exact allLt_of (by assumption)
  | exact And.right (by assumption) | exact And.right (And.right (by assumption)) | exact And.right (And.right (And.right (by assumption))))
section Conv
variable {w : World} {p : Program} {loose : List Str} {mean : ExcName → Option Value} {mg mb : Str → Option Value}
local macro_rules | `(tactic| walk_at "ENTER") => `(tactic| (refine' code_def ?k1 ?k2 ?k3 ?k4 ?k5 ?kA ?kF ?kK ?k6 ?k7 ?k8 ?k9 ?kB ?_ ?c2 ?c3 ?c4 ?c5; (case kA => exact rfl); (case kF => exact rfl); (case kK => first | assumption | exact rfl); (case k1 => k_asm); (case k2 => k_asm); (case k3 => k_asm); (case k4 => k_asm); (case k5 => k_asm); (case k6 => k_is); (case k7 => k_is); (case k8 => ktr_room); (case k9 => first | exact BindsTo.of_eq rfl | exact binds_K (by k_in) rfl (by k_is) rfl rfl rfl); (case c5 => decide); (case kB => exact locs rfl); (case c2 => exact rfl); (case c3 => exact rfl); (case c4 => exact rfl); k_whole; intro _ _ _ _ _ _ _ _ _; (try dsimp only); (try k_fold)))
noncomputable def GetSpec (w : World) (p : Program) (loose : List Str) (mean : ExcName → Option Value) (mg mb : Str → Option Value) : Prop :=
  ∀ {dp un : Nat} {gd : Option (List Code)} {cn : Str} {cs : Scope} {a : Addr} {ccd : Value} {cl : List (Str × Addr)} {outer : List Env} {A₀ : Around} {base h₀ : Heap} {L : Addr} {m : Str → Option Value} {news : List (Addr × Obj)} {s : Shared} {I D H : Addr} {x y : Str} {t kt : Tok} {c c' : Nat}
    {its : List Value} {n : Nat} {tbl : List (Nat × Str)}
    {Q E : Value → Shared → Prop},
    Below A₀ base outer h₀ → Fr h₀ L s.heap m → (kmake.heap_1 w.params).In h₀ → News h₀ L s.heap ((I, instObj 230 D) :: (D, hdict w H kt) :: (H, W.listOf its.toArray n) :: news) → Top p loose mean mg mb h₀ → cs.kind = .function →
    x = tx [c] → LetC c → HIn news its tbl → tbl.length ≤ 10 → tbl.find? (fun q => lowc q.1 == lowc c) = some (c', y) →
    dp + 50 < recursionLimit → un + 8 * 50 < cLine →
    (∀ t' h' tk', Fr h₀ L h' m → News h₀ L h' ((I, instObj 230 D) :: (D, hdict w H kt) :: (H, W.listOf its.toArray n) :: news) → Q (.str y t') { s with heap := h', toks := tk' }) →
    wpAny (model PySem.Challenge.rw_we0032_01.row.prog w) (ktrTop dp un gd cn cs L a ccd cl outer) (call (.ref 177) [.ref I, .str x t]) Q E s
local macro_rules | `(tactic| walk_at "call ref") => `(tactic| ((with_reducible show wpAny _ _ (call (Value.ref 129) _ _) _ _ _); k_dflt (refine conv_spec _ (by k_asm) (by k_asm) (by k_asm) (by k_asm) (by k_asm) (by first | assumption | exact rfl) (by first | assumption | (subst_vars; first | exact head_let (by assumption) | exact head_let (let_low (by assumption)))) (by ktr_room) (by ktr_units) ?_); intro h' tk' F' N'; (try k_sweep)))
local macro_rules | `(tactic| walk_at "call builtin:str.lower") => `(tactic| refine r_lower (by assumption) (by assumption) ?_)
local macro_rules | `(tactic| walk_at "exec For Tuple Attribute cons nil") => `(tactic| refine hold ?_)
theorem find_later {tbl : List (Nat × Str)} {f : Nat × Str → Bool} {i : Nat} {q z : Nat × Str} (h : (tbl.drop i).find? f = some z) (hp : tbl[i]? = some q) : (f q = true → z = q) ∧ (f q = false → (tbl.drop (i + 1)).find? f = some z) := by
  obtain ⟨hlt, e⟩ := List.getElem?_eq_some_iff.mp hp
  rw [List.drop_eq_getElem_cons hlt, e, List.find?_cons] at h
  constructor
  · intro hf; rw [hf] at h; exact (Option.some.inj h).symm
  · intro hf; rw [hf] at h; exact h
theorem tx_eq {a b : Nat} (h : (tx [a] == tx [b]) = true) : a = b := by
  have := eq_of_beq h
  have := congrArg (fun x : Str => x.cps.toList) this
  simpa using this
theorem tx_neq {a b : Nat} (h : (tx [a] == tx [b]) = false) : a ≠ b := fun e => by subst e; simp at h
theorem get_spec : GetSpec w p loose mean mg mb := by
  w_top off
  unfold GetSpec
  intro dp un gd cn cs a ccd cl outer A₀ base h₀ L m news s I D H x y t kt c c' its n tbl Q E B F X N T hk hx hc hin hz hfind hd hu hret
  refine wpAny_call ?_
  k_dflt (walk_at "ENTER")
  k_steps
  unfold Hold
  (rename Fr _ _ _ _ => hF; rename News _ _ _ _ => hN)
  have hlen := hin.length
  refine for_stR (l := H) (n := n) (vs := its) rfl hF hN ?_ (σ := Option Value × Option Value) (fun m st x => if x = Str.ofString "v" then st.1 else if x = Str.ofString "k" then st.2 else m x) (fun _ => (I, instObj 230 D) :: (D, hdict w H kt) :: (H, W.listOf its.toArray n) :: news)
    (fun done _ => (tbl.drop done.length).find? (fun q => lowc q.1 == lowc c) = some (c', y)) (none, none) (em2 rfl rfl) lAll hfind (fun _ _ _ => by k_mem) ?_ ?_
  · k_steps
    all_goals first | rfl | exact ⟨_, rfl⟩ | exact ⟨rfl, _, rfl⟩
  · rintro Wf I5 it done v rest ⟨kk, vv⟩ h5 tk5 hvs hWf hWr hP hI hF hN
    obtain ⟨a6, c6, x6, y6, t6, t7, n6, rfl, hps, hm6, hx6, hc6⟩ := hin.get (i := done.length) (v := v) (by rw [hvs]; simp)
    obtain ⟨q1, q2⟩ := find_later hP hps
    k_steps
    · rename_i hcmp
      have hq := q1 (by simpa using tx_eq hcmp)
      cases hq
      (rename Fr _ _ _ _ => hF; rename News _ _ _ _ => hN)
      dsimp only
      refine hWr _ _ ?_
      k_steps
      (rename Fr h₀ _ _ _ => hF; rename News h₀ _ _ _ => hN)
      exact hret _ _ _ hF (newsOf hN (lSkip lAll))
    · rename_i hcmp
      have hq := q2 (by simpa using tx_neq hcmp)
      (rename Fr _ _ _ _ => hF; rename News _ _ _ _ => hN)
      exact hWf.end hF hN (some _, some _) mm2 lAll hI (by simpa using hq)
  · rintro ⟨kk, vv⟩ h5 tk5 hP
    rw [List.drop_of_length_le (by omega)] at hP
    cases hP
end Conv
end Mine
end
section
open PySem PySem.W PyProof.Rows
namespace Mine
local macro_rules | `(tactic| k_mem) => `(tactic| first | exact List.mem_cons_self .. | (refine List.mem_cons_of_mem _ ?_; k_mem))
local macro_rules | `(tactic| ktn_lt) => `(tactic| first
  | exact allLt_left (by assumption) | exact allLt_left (And.right (by assumption)) | exact allLt_left (And.right (And.right (by assumption))) | exact allLt_left (And.right (And.right (And.right (by assumption))))
  | exact allLt_left (allLt_of (by assumption)) | exact allLt_of (by assumption)
  | exact And.right (by assumption) | exact And.right (And.right (by assumption)) | exact And.right (And.right (And.right (by assumption))))
section Conv
variable {w : World} {p : Program} {loose : List Str} {mean : ExcName → Option Value} {mg mb : Str → Option Value}
local macro_rules | `(tactic| walk_at "ENTER") => `(tactic| (refine' code_def ?k1 ?k2 ?k3 ?k4 ?k5 ?kA ?kF ?kK ?k6 ?k7 ?k8 ?k9 ?kB ?_ ?c2 ?c3 ?c4 ?c5; (case kA => exact rfl); (case kF => exact rfl); (case kK => first | assumption | exact rfl); (case k1 => k_asm); (case k2 => k_asm); (case k3 => k_asm); (case k4 => k_asm); (case k5 => k_asm); (case k6 => k_is); (case k7 => k_is); (case k8 => ktr_room); (case k9 => first | exact BindsTo.of_eq rfl | exact binds_K (by k_in) rfl (by k_is) rfl rfl rfl); (case c5 => decide); (case kB => exact locs rfl); (case c2 => exact rfl); (case c3 => exact rfl); (case c4 => exact rfl); k_whole; intro _ _ _ _ _ _ _ _ _; (try dsimp only); (try k_fold)))
noncomputable abbrev tbLg (w : World) (I D H : Addr) (kt : Tok) (its : List Value) (n : Nat) (news : List (Addr × Obj)) : List (Addr × Obj) := (I, instObj 230 D) :: (D, hdict w H kt) :: (H, W.listOf (List.toArray its) n) :: news
noncomputable def KeysSpec (w : World) (p : Program) (loose : List Str) (mean : ExcName → Option Value) (mg mb : Str → Option Value) : Prop :=
  ∀ {dp un : Nat} {gd : Option (List Code)} {cn : Str} {cs : Scope} {a : Addr} {ccd : Value} {cl : List (Str × Addr)} {outer : List Env} {A₀ : Around} {base h₀ : Heap} {L : Addr} {m : Str → Option Value} {news : List (Addr × Obj)} {s : Shared} {I D H : Addr} {kt : Tok}
    {its : List Value} {n : Nat} {tbl : List (Nat × Str)}
    {Q E : Value → Shared → Prop},
    Below A₀ base outer h₀ → Fr h₀ L s.heap m → (kmake.heap_1 w.params).In h₀ → News h₀ L s.heap (tbLg w I D H kt its n news) → Top p loose mean mg mb h₀ → cs.kind = .function →
    HIn news its tbl → tbl.length ≤ 10 →
    dp + 50 < recursionLimit → un + 8 * 50 < cLine →
    (∀ J ks n2 h' tk', Fr h₀ L h' m → News h₀ L h' ((J, W.listOf (List.toArray ks) n2) :: tbLg w I D H kt its n news) → ks.length = tbl.length → Q (.ref J) { s with heap := h', toks := tk' }) →
    wpAny (model PySem.Challenge.rw_we0032_01.row.prog w) (ktrTop dp un gd cn cs L a ccd cl outer) (call (.ref 182) [.ref I]) Q E s
local macro_rules | `(tactic| walk_at "eval ListComp") => `(tactic| refine hold ?_)
theorem keys_spec : KeysSpec w p loose mean mg mb := by
  w_top off
  unfold KeysSpec
  intro dp un gd cn cs a ccd cl outer A₀ base h₀ L m news s I D H kt its n tbl Q E B F X N T hk hin hz hd hu hret
  refine wpAny_call ?_
  k_dflt (walk_at "ENTER")
  k_steps
  unfold Hold
  k_dflt (refine LCp.ListComp_P (F₀ := by k_asm) (by with_unfolding_all rfl) (by decide) (by rfl) (by decide) (by rfl) (by rfl) (by decide) ?_)
  k_steps
  (rename Fr _ _ _ _ => hF; rename News _ _ _ _ => hN)
  have hlen := hin.length
  refine LCp.SrcLP.ledger (by rfl) hF hN (by k_mem) (by rw [sizeLine_eq]; simp; omega) ?_
  intro g
  refine restP (fun i ys (nw : List (Addr × Obj)) => nw = tbLg w I D H kt its n news ∧ ys.length = i) ?_ ?_ _ 0 [] _ (Nat.zero_add _) ⟨rfl, rfl⟩
  · clear hF hN
    rintro i v ys nw hi hv ⟨rfl, hys⟩
    obtain ⟨a6, c6, x6, y6, t6, t7, n6, rfl, hps, hm6, hx6, hc6⟩ := hin.get (i := i) (v := v) (by simpa using hv)
    refine ⟨_, _, _, _, _, rfl, lSkip (lSkip (lSkip lAll)) _ hm6, rfl, rfl, ?_⟩
    intro I5 oI C5 oC D5 m5 h5 tk5 E5 hC hxx hx2 hF hN hoff hne
    k_steps
    exact LCg.CompEnd.intro hF hN _ (fun _ h => h) hoff (.inr ⟨_, by k_mem, rfl, _, rfl⟩) ⟨rfl, by simp [hys]⟩
  · clear hF hN
    rintro ys nw ⟨rfl, hys⟩
    unfold LCg.FinE
    intro D7 h7 tk7 hF hN off7
    simp only [LCg.Off1] at off7
    k_steps
    (rename Fr h₀ _ _ _ => hF; rename News h₀ _ _ _ => hN)
    exact hret _ ys _ _ _ hF hN (by rw [hys, ← hlen]; simp)
noncomputable def ItemsSpec (w : World) (p : Program) (loose : List Str) (mean : ExcName → Option Value) (mg mb : Str → Option Value) : Prop :=
  ∀ {dp un : Nat} {gd : Option (List Code)} {cn : Str} {cs : Scope} {a : Addr} {ccd : Value} {cl : List (Str × Addr)} {outer : List Env} {A₀ : Around} {base h₀ : Heap} {L : Addr} {m : Str → Option Value} {news : List (Addr × Obj)} {s : Shared} {I D H : Addr} {kt : Tok}
    {its : List Value} {n : Nat} {tbl : List (Nat × Str)}
    {Q E : Value → Shared → Prop},
    Below A₀ base outer h₀ → Fr h₀ L s.heap m → (kmake.heap_1 w.params).In h₀ → News h₀ L s.heap (tbLg w I D H kt its n news) → Top p loose mean mg mb h₀ → cs.kind = .function →
    HIn news its tbl → tbl.length ≤ 10 →
    dp + 50 < recursionLimit → un + 8 * 50 < cLine →
    (∀ J n2 h' tk', Fr h₀ L h' m → News h₀ L h' ((J, W.listOf (List.toArray its) n2) :: tbLg w I D H kt its n news) → AllLt J news → Q (.ref J) { s with heap := h', toks := tk' }) →
    wpAny (model PySem.Challenge.rw_we0032_01.row.prog w) (ktrTop dp un gd cn cs L a ccd cl outer) (call (.ref 194) [.ref I]) Q E s
local macro_rules | `(tactic| walk_at "subscriptTail Name Slice ref ref") => `(tactic| (refine' kmk_slice ?F ?N ?l ?p ?q ?_ ?s ?t ?z; (case F => k_asm); (case N => k_asm); (case l => exact News.isList (by k_asm) (by k_mem)); (case p => exact .none); (case q => exact .none); (case s => with_unfolding_all rfl); (case t => intro _; with_unfolding_all rfl); (case z => rw [sizeLine_eq]; simp; omega); intro J h' F' N' l1; (try k_lt l1); (try k_sweep)))
theorem items_spec : ItemsSpec w p loose mean mg mb := by
  w_top off
  unfold ItemsSpec
  intro dp un gd cn cs a ccd cl outer A₀ base h₀ L m news s I D H kt its n tbl Q E B F X N T hk hin hz hd hu hret
  have hlen := hin.length
  refine wpAny_call ?_
  k_dflt (walk_at "ENTER")
  k_steps
  (rename Fr h₀ _ _ _ => hF; rename News h₀ _ _ _ => hN)
  rw [slicePick_all] at hN
  exact hret _ _ _ _ hF hN (‹_ ∧ _ ∧ _ ∧ AllLt _ news›.2.2.2)
end Conv
end Mine
end
section
open PySem PySem.W PyProof.Rows
namespace Mine
section
variable {prog : Program} {w : World} {A : Around} {E : Value → Shared → Prop} {s : Shared} {h₀ : Heap} {L P : Addr} {m : Str → Option Value} {news : List (Addr × Obj)} {x y : Value} {r : List Value} {n : Nat} {t u : Tok} {v : Int} {Q : Value → Shared → Prop}
theorem r_str (hv : Small v) (h : Q (.str (vtext v) s.toks) { s with toks := s.toks + 1 }) : wpAny (model prog w) A (call (.type "str") [.int v t]) Q E s := by
  obtain ⟨h1, h2⟩ := hv
  exact P.str_of_int (shown (N := 2 ^ 1920) (by omega) (by omega) (Int.le_refl _)) h
theorem r_int {z : Str} (hz : z = vtext v) (hv : Small v) (h : Q (.int v s.toks) { s with toks := s.toks + 1 }) : wpAny (model prog w) A (call (.type "int") [.str z t]) Q E s := by
  subst hz
  exact KIN.call_text (vtext_int hv.1 hv.2) (by have := vtext_len hv.1 hv.2; omega) h
theorem r_max {a b : Nat} (hh : A.handled = none) (F : Fr h₀ L s.heap m) (N : News h₀ L s.heap news)
    (h : ∀ h' t' tk, Fr h₀ L h' m → News h₀ L h' news → Q (.int ((max a b : Nat) : Int) t') { s with heap := h', toks := tk }) :
    wpAny (model prog w) A (call (.builtin "max") [.int (a : Int) t, .int (b : Int) u]) Q E s :=
  max_two_N hh F N fun h' tk F' N' => by
    have e : (if (b : Int) > (a : Int) then (b : Int) else (a : Int)) = ((max a b : Nat) : Int) := by
      split <;> omega
    rw [e]
    exact h h' _ tk F' N'
theorem r_nth0 {its : Array Value} {value slice : Expr} (hx : its[0]? = some x) (N : News h₀ L s.heap news) (hm : (P, W.listOf its n) ∈ news) (h : Q x s)
    (hs : subscripted slice false (.ref P) (.int 0 u) = operate [.ref P, .int 0 u] (getItem (.ref P) (.int 0 u)) := by with_unfolding_all rfl) (hg : ∀ r, letTemporaryGo value (.ref P) r = pure () := by intro _; with_unfolding_all rfl) :
    wpAny (model prog w) A (subscriptTail value slice (.ref P) (.int 0 u)) Q E s := by
  exact item_list (N.isList hm) (by decide) (by decide) (by simpa using hx) h hs hg
theorem r_nth1 {its : Array Value} {value slice : Expr} (hx : its[1]? = some x) (N : News h₀ L s.heap news) (hm : (P, W.listOf its n) ∈ news) (h : Q x s)
    (hs : subscripted slice false (.ref P) (.int 1 u) = operate [.ref P, .int 1 u] (getItem (.ref P) (.int 1 u)) := by with_unfolding_all rfl) (hg : ∀ r, letTemporaryGo value (.ref P) r = pure () := by intro _; with_unfolding_all rfl) :
    wpAny (model prog w) A (subscriptTail value slice (.ref P) (.int 1 u)) Q E s := by
  exact item_list (N.isList hm) (by decide) (by decide) (by simpa using hx) h hs hg
end
end Mine
end
section
open PySem PySem.W PyProof.Rows
namespace Mine
local macro_rules | `(tactic| k_mem) => `(tactic| first | exact List.mem_cons_self .. | (refine List.mem_cons_of_mem _ ?_; k_mem))
local macro_rules | `(tactic| ktn_lt) => `(tactic| first
  | exact allLt_left (by assumption) | exact allLt_left (And.right (by assumption)) | exact allLt_left (And.right (And.right (by assumption))) | exact allLt_left (And.right (And.right (And.right (by assumption))))
  | exact allLt_left (allLt_of (by assumption)) | exact allLt_of (by assumption)
  | exact And.right (by assumption) | exact And.right (And.right (by assumption)) | exact And.right (And.right (And.right (by assumption))))
section RunP
variable {w : World} {p : Program} {loose : List Str} {mean : ExcName → Option Value} {mg mb : Str → Option Value}
local macro_rules | `(tactic| walk_at "ENTER") => `(tactic| (refine' code_def ?k1 ?k2 ?k3 ?k4 ?k5 ?kA ?kF ?kK ?k6 ?k7 ?k8 ?k9 ?kB ?_ ?c2 ?c3 ?c4 ?c5; (case kA => exact rfl); (case kF => exact rfl); (case kK => first | assumption | exact rfl); (case k1 => k_asm); (case k2 => k_asm); (case k3 => k_asm); (case k4 => k_asm); (case k5 => k_asm); (case k6 => k_is); (case k7 => k_is); (case k8 => ktr_room); (case k9 => first | exact BindsTo.of_eq rfl | exact binds_K (by k_in) rfl (by k_is) rfl rfl rfl); (case c5 => decide); (case kB => exact locs rfl); (case c2 => exact rfl); (case c3 => exact rfl); (case c4 => exact rfl); k_whole; intro _ _ _ _ _ _ _ _ _; (try dsimp only); (try k_fold)))
local macro_rules | `(tactic| walk_at "call ref") => `(tactic| (k_dflt (first
  | (refine' call_cls ?k1 ?k2 ?k3 ?k4 ?k5 ?k6 ?_; (case k1 => k_asm); (case k2 => k_asm); (case k3 => k_asm); (case k4 => k_is); (case k5 => k_is); (case k6 => k_is); k_whole; intro x' d' h' F' N' l1 l2; (try k_lt l1); (try k_lt2 l2); (try k_sweep); walk_at "ENTER")
  | (refine' call_meth ?k1 ?k2 ?_; (case k1 => k_asm); (case k2 => k_mem); k_whole; walk_at "ENTER")
  | (refine wpAny_call ?_; walk_at "ENTER"))))
theorem for_nil {prog : Program} {A : Around} {E : Value → Shared → Prop} {Q : Flow → Shared → Prop} {s : Shared} {env : Env} {h₀ : Heap} {target iter : Expr} {body : List Stmt} {pos : Pos} {m : Str → Option Value} {news : List (Addr × Obj)}
    {l : Addr} {n : Nat} (hh : A.handled = none) (F : Fr h₀ env.locals s.heap m) (N : News h₀ env.locals s.heap news)
    (hev : wpAny (model prog w) A (eval iter env) (fun v s' => v = .ref l ∧ s' = s) E s)
    (hm : (l, listOf (List.toArray []) n) ∈ news)
    (fin : ∀ h tk, Fr h₀ env.locals h m → News h₀ env.locals h news → Q .next { s with heap := h, toks := tk })
    (hs : ∀ x, foldedSetIterable iter env x = pure x := by intro _; rfl)
    (hE : PassesOwn (model prog w) A env E := by passes_own) :
    wpAny (model prog w) A (exec (.For target iter body [] pos) env) Q E s :=
  for_st (l := l) (n := n) (vs := []) hh F N hev (σ := Unit) (fun m _ => m) (fun _ => news) (fun _ _ => True) () (fun _ => rfl) (fun _ h => h) trivial (fun _ _ _ => hm)
    (fun _ I it done v rest st h tk hv => by simp at hv) (fun _ h tk _ F N => fin h tk F N) hs hE
local macro_rules | `(tactic| walk_at "exec For Tuple Name cons nil") => `(tactic| (refine for_nil (by exact rfl) (by k_asm) (by k_asm) (ld (by k_asm) rfl ⟨rfl, rfl⟩) (by k_mem) ?_; intro h' tk' F' N'; (try k_sweep)))
inductive NIn : List Value → List Nat → Prop
  | nil : NIn [] []
  | cons {t : Tok} {c : Nat} {x : Str} {vs : List Value} {ns : List Nat} : x = tx [c] → NIn vs ns → NIn (.str x t :: vs) (c :: ns)
theorem NIn.snoc {vs : List Value} {ns : List Nat} {t : Tok} {c : Nat} {x : Str} (h : NIn vs ns) (e : x = tx [c]) : NIn (vs ++ [.str x t]) (ns ++ [c]) := by
  induction h with
  | nil => exact .cons e .nil
  | cons e' _ ih => exact .cons e' ih
theorem NIn.length {vs : List Value} {ns : List Nat} (h : NIn vs ns) : vs.length = ns.length := by
  induction h with
  | nil => rfl
  | cons _ _ ih => simp [ih]
noncomputable abbrev runT : ToldN (List Int × MSt) where
  Rel := fun news vs d => ∃ a xs n, vs = [.ref a] ∧ (a, intList xs n) ∈ news ∧ IntsAre xs (d.1 ++ [0])
  Ok := fun d => d.1.length ≤ 200 ∧ Run ⟨[], 0, [], 0⟩ d.1 d.2
  size := fun _ => 100
  Tl := fun _ => True
  Out := fun news r d => ∃ ra J its n2 t k, r = .ref ra ∧ (ra, ({ cls := .type "tuple", data := .seq #[.ref J, .int (d.2.most : Nat) t] k } : Obj)) ∈ news ∧ (J, W.listOf (List.toArray its) n2) ∈ news ∧ HIn news its (texts d.2.tbl)
structure RSt where
  k : Nat
  ms : MSt
  its : List Value
  n : Nat
  nl : Nat
  nvs : List Value
  nn : Nat
  tj : List (Addr × Obj)
  mtk : Tok
  ktk : Tok
  dtk : Tok
  fs : Option Value
  sc : Option Value
noncomputable abbrev rMp (m : Str → Option Value) (st : RSt) : Str → Option Value := fun x => if x = Str.ofString "k" then some (.int (st.k : Nat) st.ktk) else if x = Str.ofString "names" then some (.ref st.nl) else if x = Str.ofString "most" then some (.int (st.ms.most : Nat) st.mtk) else if x = Str.ofString "deed" then some (.int st.ms.deed st.dtk) else if x = Str.ofString "first" then st.fs else if x = Str.ofString "second" then st.sc else m x
local macro_rules | `(tactic| walk_at "EMX") => `(tactic| (intro x; dsimp only [rMp]; by_cases e0 : x = Str.ofString "k"; (subst e0; rfl); by_cases e1 : x = Str.ofString "names"; (subst e1; rfl); by_cases e2 : x = Str.ofString "most"; (subst e2; rfl); by_cases e3 : x = Str.ofString "deed"; (subst e3; rfl); by_cases e4 : x = Str.ofString "first"; (subst e4; rfl); by_cases e5 : x = Str.ofString "second"; (subst e5; rfl); simp only [if_neg e0, if_neg e1, if_neg e2, if_neg e3, if_neg e4, if_neg e5]))
noncomputable abbrev rLg (w : World) (I D H : Addr) (kt : Tok) (news : List (Addr × Obj)) (st : RSt) : List (Addr × Obj) := tbLg w I D H kt st.its st.n ((st.nl, W.listOf (List.toArray st.nvs) st.nn) :: (st.tj ++ news))
noncomputable def ROk (I D H : Nat) (syms : List Int) (fin : MSt) (news : List (Addr × Obj)) (st : RSt) : Prop :=
  Run st.ms (syms.drop st.k) fin ∧ st.k ≤ syms.length ∧ HIn (st.tj ++ news) st.its (texts st.ms.tbl) ∧ st.ms.tbl.length ≤ 9 ∧ NIn st.nvs st.ms.names ∧
    (∀ p ∈ st.tj ++ news, p.1 ≠ H) ∧ (∀ p ∈ st.tj ++ news, p.1 < st.nl) ∧ (I ≠ st.nl ∧ D ≠ st.nl ∧ H ≠ st.nl) ∧ (∀ q ∈ news, ∀ p ∈ st.tj, q.1 < p.1)
local macro_rules | `(tactic| walk_at "exec While UnaryOp cons nil") => `(tactic| refine hold ?_)
theorem ints_get {xs : List Value} {zs : List Int} (h : IntsAre xs zs) : ∀ {k : Nat} {z : Int}, zs[k]? = some z → ∃ t, xs.toArray[k]? = some (.int z t) := by
  induction h with
  | nil => intro k z e; simp at e
  | cons i t _ ih =>
    intro k z e
    cases k with
    | zero => simp at e; exact ⟨t, by simp [e]⟩
    | succ k => simp at e; obtain ⟨u, hu⟩ := ih e; exact ⟨u, by simpa using hu⟩
local macro_rules | `(tactic| walk_at "subscriptTail") => `(tactic| (refine r_nth (by k_asm) (by k_mem) (by assumption) (by assumption) ?_))
local macro_rules | `(tactic| walk_at "call ref") => `(tactic| ((with_reducible show wpAny _ _ (call (Value.ref 143) _) _ _ _); refine hold ?_))
local macro_rules | `(tactic| walk_at "call ref") => `(tactic| ((with_reducible show wpAny _ _ (call (Value.ref 182) _) _ _ _); refine hold ?_))
local macro_rules | `(tactic| walk_at "call ref") => `(tactic| ((with_reducible show wpAny _ _ (call (Value.ref 177) _) _ _ _); refine hold ?_))
local macro_rules | `(tactic| walk_at "call ref") => `(tactic| ((with_reducible show wpAny _ _ (call (Value.ref 148) _) _ _ _); refine hold ?_))
local macro_rules | `(tactic| walk_at "call ref") => `(tactic| ((with_reducible show wpAny _ _ (call (Value.ref 194) _) _ _ _); refine hold ?_))
local macro_rules | `(tactic| k_all) => `(tactic| assumption)
local macro_rules | `(tactic| walk_at "call builtin:list.append") => `(tactic| (refine r_append (by k_asm) (by k_asm) (by k_upd) (by omega) ?_; intro h' F' N'; (try dsimp only at N'); (try k_sweep)))
local macro_rules | `(tactic| walk_at "subscriptTail Name Constant ref int") => `(tactic| first | refine r_nth0 (by assumption) (by k_asm) (by k_mem) ?_ | refine r_nth1 (by assumption) (by k_asm) (by k_mem) ?_)
local macro_rules | `(tactic| walk_at "call type:str") => `(tactic| refine r_str (by assumption) ?_)
local macro_rules | `(tactic| walk_at "call type:int") => `(tactic| refine r_int rfl (by assumption) ?_)
local macro_rules | `(tactic| walk_at "call builtin:max") => `(tactic| (refine r_max (by with_unfolding_all rfl) (by k_asm) (by k_asm) ?_; intro h' t' tk' F' N'; (try k_sweep)))
local macro_rules | `(tactic| walk_at "call builtin:len") => `(tactic| (refine r_len (by k_asm) (by k_mem) (by assumption) (by omega) ?_; intro _ _))
local macro_rules | `(tactic| walk_at "delItem ref str") => `(tactic| (k_dflt (refine' ksp_delItem ?F ?X ?I ?hQ ?hS ?hF ?_; (case F => k_asm); (case X => k_asm); (case I => k_inst); (case hS => k_is); (case hF => k_is); (case hQ => k_is); k_whole)))
local macro_rules | `(tactic| walk_at "call ref") => `(tactic| ((with_reducible show wpAny _ _ (call (Value.ref 288) _) _ _ _); refine hold ?_))
theorem deed_bits {x : Int} (h : Small x) : Builtin.Int.intBits x ≤ 64 := intBits_le_64 (by have := h.1; omega) (by have := h.2; omega)
theorem lSw3 {a b c d e f g : Addr × Obj} {l : List (Addr × Obj)} : ∀ p ∈ c :: d :: e :: a :: (f :: g :: l), p ∈ a :: b :: c :: d :: e :: f :: g :: l := fun p hp => by
  simp only [List.mem_cons] at hp ⊢
  rcases hp with h | h | h | h | h | h | h <;> simp only [h, true_or, or_true]
theorem allLt_tail : ∀ {l tl : List (Addr × Obj)} {a : Addr}, AllLt a (l ++ tl) → AllLt a tl
  | [], _, _, h => h
  | _ :: _, _, _, h => allLt_tail (And.right h)
theorem oCons {a : Addr} {o : Obj} {news tl : List (Addr × Obj)} (h : ∀ q ∈ news, q.1 < a) (k : ∀ q ∈ news, ∀ p ∈ tl, q.1 < p.1) : ∀ q ∈ news, ∀ p ∈ (a, o) :: tl, q.1 < p.1 := by
  intro q hq p hp
  rcases List.mem_cons.mp hp with rfl | hp
  · exact h q hq
  · exact k q hq p hp
theorem lEnd {a b c d e f : Addr × Obj} {tj news : List (Addr × Obj)} : ∀ p ∈ news ++ (a :: b :: tj), p ∈ a :: b :: c :: d :: e :: f :: (tj ++ news) := fun p hp => by
  simp only [List.mem_cons, List.mem_append] at hp ⊢
  rcases hp with h | h | h | h <;> simp only [h, true_or, or_true]
theorem lEnd2 {a b : Addr × Obj} {tj news : List (Addr × Obj)} : ∀ p ∈ tj ++ news, p ∈ news ++ (a :: b :: tj) := fun p hp => by
  simp only [List.mem_cons, List.mem_append] at hp ⊢
  rcases hp with h | h <;> simp only [h, true_or, or_true]
theorem run_tells : ∀ d, TellsN PySem.Challenge.rw_we0032_01.row.prog w (kmake.heap_1 w.params) p loose mean mg mb 295 runT d := by
  w_top off
  rintro ⟨syms, fin⟩
  unfold TellsN
  intro dp un gd cn cs a ccd cl outer A₀ base h₀ L m news s vs Q E B F X N T hk hR hok hd hu hret
  obtain ⟨la, xs, nn, rfl, hmem, hints⟩ := hR
  obtain ⟨hlen, hrun⟩ := hok
  dsimp only [runT] at hd hu hints hlen hrun
  refine wpAny_call ?_
  k_dflt ktr_enter
  k_steps
  unfold Hold
  rename_i H0 y1 lH I0 D0 y2 lD lI y3 y4 y5 y6 y7 y8 y9 y10 y11 y12 y13 y14 y15 y16 y17 y18 y19 y20 y21 y22 y23 y24 nl0 y25 lN y26 y27 y28 F28 N28
  obtain ⟨n1, n2, n3, n4⟩ := lN
  obtain ⟨kt, N28⟩ : ∃ kt, News _ _ _ ((nl0, W.listOf #[] 0) :: (I0, instObj 230 D0) :: (D0, hdict w H0 kt) :: (H0, W.listOf #[] 0) :: news) := ⟨_, N28⟩
  refine while_ex F28 N28 (σ := RSt) rMp (rLg w I0 D0 H0 kt news) (fun st => syms.length - st.k) (ROk I0 D0 H0 syms fin news) (fun st => ROk I0 D0 H0 syms fin news st ∧ st.k = syms.length)
    ⟨0, ⟨[], 0, [], 0⟩, [], 0, nl0, [], 0, [], _, _, _, none, none⟩ (by walk_at "EMX") ?_ ?_ ?_ ?_
  · intro p hp
    simp only [rLg, tbLg, List.mem_cons, List.nil_append] at hp ⊢
    rcases hp with h | h | h | h | h <;> simp only [h, true_or, or_true]
  · refine ⟨hrun, Nat.zero_le _, .nil, by simp, .nil, fun p hp => ?_, fun p hp => ?_, ⟨Nat.ne_of_lt n1, Nat.ne_of_lt n2, Nat.ne_of_lt n3⟩, fun _ _ _ h => by cases h⟩
    · exact Nat.ne_of_lt (lH p (by simpa using hp))
    · exact ktn_ltOf n4 p (by simpa using hp)
  · clear F28 N28
    intro Wk Xk
    have hIH : @Ne Nat I0 H0 := Nat.ne_of_gt (Nat.lt_trans lD.1 lI)
    have hDH : @Ne Nat D0 H0 := Nat.ne_of_gt lD.1
    rintro ⟨k, ⟨tb, mo, ns, de⟩, its, n, nl, nvs, nq, tj, mtk, ktk, dtk, fs, sc⟩ h₁ tk₁ hWk hXk ⟨r1, r2, r3, r4, r5, r6, r7, ⟨r8, r9, r10⟩, r11⟩ hF hN
    dsimp only [rMp, rLg] at r1 r2 r3 r4 r5 r6 r7 r8 r9 r10 r11 hF hN ⊢
    have hmem' := List.mem_append_right tj hmem
    have r7' : ∀ p ∈ tj ++ news, p.1 ≠ nl := fun p hp => Nat.ne_of_lt (r7 p hp)
    have r7n : ∀ q ∈ news, q.1 < nl := fun q hq => r7 q (List.mem_append_right _ hq)
    cases e : syms.drop k with
    | nil =>
      have hk9 : k = syms.length := by have := congrArg List.length e; simp at this; omega
      obtain ⟨t0, hx0⟩ := ints_get hints (k := k) (z := 0) (by rw [hk9]; simp)
      have hb9 : k ≤ 1000 := by omega
      k_steps
      (rename Fr _ _ _ _ => hF; rename News _ _ _ _ => hN)
      exact hXk.end hF hN ⟨k, ⟨tb, mo, ns, de⟩, its, n, nl, nvs, nq, tj, mtk, ktk, dtk, fs, sc⟩ (fun _ => rfl) lAll ⟨⟨r1, r2, r3, r4, r5, r6, r7, ⟨r8, r9, r10⟩, r11⟩, hk9⟩
    | cons z zs =>
      rw [e] at r1
      have hz9 : syms[k]? = some z := by have := congrArg (·[0]?) e; simpa using this
      obtain ⟨hk9, hz8⟩ := List.getElem?_eq_some_iff.mp hz9
      have hzs : syms.drop (k + 1) = zs := by have := congrArg List.tail e; simpa using this
      obtain ⟨t0, hx0⟩ := ints_get hints (k := k) (z := z) (by rw [List.getElem?_append_left hk9]; exact hz9)
      have hb9 : k ≤ 1000 := by omega
      cases r1 with
      | cons hst hrest =>
        rw [← hzs] at hrest
        cases hst with
        | name c hc hn => 
          have q1 : ¬ ((c : Int) + 256 = 0) := by omega
          have q2 : ¬ ((c : Int) + 256 < 256) := by omega
          have q4 : ((c : Int) + 256 == 0) = false := beq_eq_false_iff_ne.mpr q1
          have hnl := r5.length
          have hc9 : ({ cps := #[((c : Int) + 256 - 256).toNat] } : Str) = tx [c] := by rw [show ((c : Int) + 256 - 256).toNat = c by omega]
          k_steps
          any_goals (try (exfalso; omega))
          (rename Fr _ _ _ _ => hF; rename News _ _ _ _ => hN)
          exact hWk.end hF hN ⟨k + 1, ⟨tb, mo, ns ++ [c], de⟩, its, n, nl, nvs ++ [_], _, tj, mtk, _, dtk, fs, sc⟩ (by walk_at "EMX") lAll (by show syms.length - (k + 1) < syms.length - k; omega) ⟨hrest, hk9, r3, r4, r5.snoc hc9, r6, r7, ⟨r8, r9, r10⟩, r11⟩
        | deed h0 h1 h2 =>
          have q1 : ¬ (z = 0) := h0
          have q2 : ¬ (z = 12) := h2
          have q3 : (z != 12) = true := bne_iff_ne.mpr h2
          have q4 : (z == 0) = false := beq_eq_false_iff_ne.mpr h0
          k_steps
          any_goals (try (exfalso; omega))
          (rename Fr _ _ _ _ => hF; rename News _ _ _ _ => hN)
          exact hWk.end hF hN ⟨k + 1, ⟨tb, mo, ns, z⟩, its, n, nl, nvs, nq, tj, mtk, _, _, fs, sc⟩ (by walk_at "EMX") lAll (by show syms.length - (k + 1) < syms.length - k; omega) ⟨hrest, hk9, r3, r4, r5, r6, r7, ⟨r8, r9, r10⟩, r11⟩
        | @lay _ _ ca cb v ha hl h0 h9 hb =>
          cases r5 with
          | cons e1 r5 =>
          cases r5 with
          | cons e2 r5 =>
          cases r5
          rename_i t0' x0' t1' x1'
          obtain rfl : x1' = vtext v := by rw [e2, hb, vtext_digit h0 h9]
          have hn0 : (List.toArray [Value.str x0' t0', Value.str (vtext v) t1'])[0]? = some (Value.str x0' t0') := rfl
          have hn1 : (List.toArray [Value.str x0' t0', Value.str (vtext v) t1'])[1]? = some (Value.str (vtext v) t1') := rfl
          k_steps
          all_goals (try (exact absurd rfl (by assumption : (22 : Int) ≠ 22)))
          unfold Hold
          have hy : HeadOk (vtext v) := vtext_head (by omega) (by omega)
          refine set_spec (by k_asm) (by k_asm) (by k_asm) (by k_asm) (by k_asm) (by first | assumption | exact rfl) (List.forall_mem_cons.mpr ⟨Ne.symm r10, r6⟩) hIH hDH e1 ha hy (r3.mono (lSkip lAll)) (by rw [texts_len]; omega) (by ktr_room) (by ktr_units) ?_
          intro ys n2 a2 t7 t8 k2 h7 tk7 F7 N7 hne7 hal7 hin7
          rw [texts_set] at hin7
          have hlt7 := tset_len tb ca v
          k_steps
          all_goals (try (exfalso; omega))
          unfold Hold
          refine keys_spec (by k_asm) (by k_asm) (by k_asm) (by k_asm) (by k_asm) (by first | assumption | exact rfl) hin7 (by rw [texts_len]; omega) (by ktr_room) (by ktr_units) ?_
          intro J ks n3 h8 tk8 F8 N8 hks
          have hks9 : (List.toArray ks).size = (tset tb ca v).length := by rw [List.size_toArray, hks, texts_len]
          k_steps
          all_goals (try (exfalso; omega))
          obtain ⟨m1, m2, m3, m4, m5, m6, m7⟩ := ‹_ < _ ∧ _ < _ ∧ _ < _ ∧ _ < _ ∧ _ < _ ∧ _ < _ ∧ AllLt _ (tj ++ news)›
          (rename Fr _ _ _ _ => hF; rename News _ _ _ _ => hN)
          refine hWk.end hF hN ⟨k + 1, ⟨tset tb ca v, max mo (tset tb ca v).length, [], 22⟩, ys, n2, _, [], 0, (a2, _) :: (nl, _) :: tj, _, _, dtk, fs, sc⟩ (by walk_at "EMX") ?_ (by show syms.length - (k + 1) < syms.length - k; omega) ⟨hrest, hk9, hin7, by show (tset tb ca v).length ≤ 9; omega, .nil, ?_, ?_, ⟨Nat.ne_of_lt m2, Nat.ne_of_lt m3, Nat.ne_of_lt m4⟩, ?_⟩
          · exact lSw3
          · exact List.forall_mem_cons.mpr ⟨hne7, List.forall_mem_cons.mpr ⟨Ne.symm r10, r6⟩⟩
          · exact List.forall_mem_cons.mpr ⟨m5, List.forall_mem_cons.mpr ⟨m6, fun p hp => ktn_ltOf m7 p hp⟩⟩
          · exact oKeep (allLt_tail (And.right hal7)) (oCons r7n r11)
        | @op _ _ ca cb vx vy o c1 c2 ha hb hl fx fy sx sy so =>
          cases r5 with
          | cons e1 r5 =>
          cases r5 with
          | cons e2 r5 =>
          cases r5
          rename_i t0' x0' t1' x1'
          have hn0 : (List.toArray [Value.str x0' t0', Value.str x1' t1'])[0]? = some (Value.str x0' t0') := rfl
          have hn1 : (List.toArray [Value.str x0' t0', Value.str x1' t1'])[1]? = some (Value.str x1' t1') := rfl
          have hd22 : (o.deed == 22) = false := by cases o <;> rfl
          have hr3 := r3.mono (lSkip (q := (nl, W.listOf (List.toArray [Value.str x0' t0', Value.str x1' t1']) nq)) lAll)
          k_steps
          all_goals (try (exact absurd (by assumption : o.deed = 22) (by cases o <;> decide)))
          unfold Hold
          refine get_spec (by k_asm) (by k_asm) (by k_asm) (by k_asm) (by k_asm) (by first | assumption | exact rfl) e1 ha hr3 (by rw [texts_len]; omega) (texts_find fx) (by ktr_room) (by ktr_units) ?_
          intro t5 h5 tk5 F5 N5
          k_steps
          unfold Hold
          refine get_spec (by k_asm) (by k_asm) (by k_asm) (by k_asm) (by k_asm) (by first | assumption | exact rfl) e2 hb hr3 (by rw [texts_len]; omega) (texts_find fy) (by ktr_room) (by ktr_units) ?_
          intro t6 h6 tk6 F6 N6
          k_steps
          unfold Hold
          refine done_tells (o, vx, vy) _ _ _ _ _ _ _ _ _ _ _ _ _ _ _ _ _ _ _ (by k_asm) (by k_asm) (by k_asm) (by k_asm) (by k_asm) (by first | assumption | exact rfl) ⟨_, _, _, rfl⟩ ⟨deed_bits sx, deed_bits sy⟩ (by ktr_room) (by ktr_units) ?_
          rintro _ _ h9 tk9 F9 N9 _ rfl ⟨tv, rfl⟩
          rw [List.append_nil] at N9
          dsimp only at F9 N9 ⊢
          k_steps
          unfold Hold
          refine set_spec (by k_asm) (by k_asm) (by k_asm) (by k_asm) (by k_asm) (by first | assumption | exact rfl) (List.forall_mem_cons.mpr ⟨Ne.symm r10, r6⟩) hIH hDH e1 ha (vtext_head so.1 so.2) hr3 (by rw [texts_len]; omega) (by ktr_room) (by ktr_units) ?_
          intro ys n2 a2 t7 t8 k2 h7 tk7 F7 N7 hne7 hal7 hin7
          rw [texts_set] at hin7
          have hlt7 := tset_len tb ca (o.app vx vy)
          k_steps
          unfold Hold
          refine del_spec (by k_asm) (by k_asm) (by k_asm) (by k_asm) (by k_asm) (by first | assumption | exact rfl) (List.forall_mem_cons.mpr ⟨hne7, List.forall_mem_cons.mpr ⟨Ne.symm r10, r6⟩⟩) hIH hDH e2 hb hin7 (by rw [texts_len]; omega) (by ktr_room) (by ktr_units) ?_
          intro zs n4 h10 tk10 F10 N10 hin8
          rw [texts_del] at hin8
          have hlt8 := tdel_len (tset tb ca (o.app vx vy)) cb
          k_steps
          unfold Hold
          refine keys_spec (by k_asm) (by k_asm) (by k_asm) (by k_asm) (by k_asm) (by first | assumption | exact rfl) hin8 (by rw [texts_len]; omega) (by ktr_room) (by ktr_units) ?_
          intro J ks n3 h8 tk8 F8 N8 hks
          have hks9 : (List.toArray ks).size = (tdel (tset tb ca (o.app vx vy)) cb).length := by rw [List.size_toArray, hks, texts_len]
          k_steps
          obtain ⟨m1, m2, m3, m4, m5, m6, m7⟩ := ‹_ < _ ∧ _ < _ ∧ _ < _ ∧ _ < _ ∧ _ < _ ∧ _ < _ ∧ AllLt _ (tj ++ news)›
          (rename Fr _ _ _ _ => hF; rename News _ _ _ _ => hN)
          refine hWk.end hF hN ⟨k + 1, ⟨tdel (tset tb ca (o.app vx vy)) cb, max mo (tdel (tset tb ca (o.app vx vy)) cb).length, [], o.deed⟩, zs, n4, _, [], 0, (a2, _) :: (nl, _) :: tj, _, _, dtk, some _, some _⟩ (by walk_at "EMX") ?_ (by show syms.length - (k + 1) < syms.length - k; omega) ⟨hrest, hk9, hin8, by show (tdel (tset tb ca (o.app vx vy)) cb).length ≤ 9; omega, .nil, ?_, ?_, ⟨Nat.ne_of_lt m2, Nat.ne_of_lt m3, Nat.ne_of_lt m4⟩, ?_⟩
          · exact lSw3
          · exact List.forall_mem_cons.mpr ⟨hne7, List.forall_mem_cons.mpr ⟨Ne.symm r10, r6⟩⟩
          · exact List.forall_mem_cons.mpr ⟨m5, List.forall_mem_cons.mpr ⟨m6, fun p hp => ktn_ltOf m7 p hp⟩⟩
          · exact oKeep (allLt_tail (And.right hal7)) (oCons r7n r11)
  · clear F28 N28
    rintro ⟨k, ⟨tb, mo, ns, de⟩, its, n, nl, nvs, nq, tj, mtk, ktk, dtk, fs, sc⟩ h₁ tk₁ ⟨⟨r1, r2, r3, r4, r5, r6, r7, ⟨r8, r9, r10⟩, r11⟩, hk9⟩ hF hN
    dsimp only [rMp, rLg] at r1 r2 r3 r4 r5 r6 r7 r8 r9 r10 r11 hF hN hk9 ⊢
    rw [List.drop_of_length_le (by omega)] at r1
    cases r1
    k_steps
    unfold Hold
    refine items_spec (by k_asm) (by k_asm) (by k_asm) (by k_asm) (by k_asm) (by first | assumption | exact rfl) (r3.mono (lSkip lAll)) (by rw [texts_len]; omega) (by ktr_room) (by ktr_units) ?_
    intro J n2 h2 tk2 F2 N2 hal
    k_steps
    obtain ⟨m1, m2, m3, m4, m5, m6⟩ := ‹_ < _ ∧ _ < _ ∧ _ < _ ∧ _ < _ ∧ _ < _ ∧ AllLt _ (tj ++ news)›
    (rename Fr h₀ _ _ _ => hF; rename News h₀ _ _ _ => hN)
    exact hret _ ((_, _) :: (J, W.listOf (List.toArray its) n2) :: tj) _ _ hF (newsOf hN lEnd) (oKeep (allLt_tail m6) (oKeep (allLt_tail (And.right hal)) r11)) trivial
      ⟨_, J, its, n2, _, _, rfl, List.mem_append_right _ (.head _), List.mem_append_right _ (.tail _ (.head _)), r3.mono lEnd2⟩
end RunP
end Mine
end
section
open PySem PySem.W PyProof.Rows
namespace Mine
/-! a for over a range, by a state of our own -/
theorem range_rest {prog : Program} {w : World} {A : Around} {E : Value → Shared → Prop} {Q : Flow → Shared → Prop} {s : Shared} {env : Env} {h₀ : Heap} {x : Str} {body : List Stmt}
    {I : Addr} {a : Int} {n : Nat} {σ : Type} (Mp : σ → Str → Option Value) (Lg : σ → List (Addr × Obj)) (P : Nat → σ → Prop)
    (turn : ∀ W it (i : Nat) st t h tk, i < n → FTo Mp Lg (fun _ st => P (i + 1) st) h₀ env.locals { s with heap := h, toks := tk } I it [] W → P i st → (∀ p ∈ Lg st, p.1 ≠ I) → Fr h₀ env.locals h (fun y => if y = x then some (.int (a + (i : Int)) t) else Mp st y) → News h₀ env.locals h ((I, it) :: Lg st) →
      wpAny (model prog w) A (execs body env) W E { s with heap := h, toks := tk })
    (fin : ∀ st h tk, P n st → Fr h₀ env.locals h (Mp st) → News h₀ env.locals h (Lg st) → Q .next { s with heap := h, toks := tk }) :
    ∀ (k i : Nat) (st : σ), i + k = n → P i st → (∀ p ∈ Lg st, p.1 ≠ I) → RangeRest prog w A E h₀ env x body Q s I a n k i (Mp st) (Lg st)
  | 0, i, st, e, hP, _ => RangeRest.zero fun h tk F N => fin st h tk (by rw [← e]; exact hP) F N
  | k + 1, i, st, e, hP, ho => by
    refine RangeRest.succ fun t h tk F N => ?_
    refine wpAny_mono (turn _ _ i st t h tk (by omega) FEnd.to hP ho F N) (fun f s₃ q => ?_) fun _ _ x => x
    obtain ⟨rfl, h', tk', st', rfl, F', N', ho', hP'⟩ := q
    exact ⟨h', tk', Mp st', Lg st', rfl, F', N', ho', range_rest Mp Lg P turn fin k (i + 1) st' (by omega) hP' ho'⟩
theorem range_st {prog : Program} {w : World} {A : Around} {E : Value → Shared → Prop} {Q : Flow → Shared → Prop} {s : Shared} {env : Env} {h₀ : Heap} {x : Str} {body : List Stmt} {m : Str → Option Value} {news : List (Addr × Obj)}
    {r : Addr} {a₀ b₀ : Int} {t₀ u₀ v₀ : Tok} {n : Nat} (hh : A.handled = none) (hr : IsRange s.heap r a₀ b₀ 1 t₀ u₀ v₀) (hsmall : Builtin.Range.small a₀ b₀ 1 = true) (hn : Builtin.Range.rangeSize a₀ b₀ 1 = (n : Int))
    (F : Fr h₀ env.locals s.heap m) (N : News h₀ env.locals s.heap news)
    {σ : Type} (Mp : (Str → Option Value) → σ → Str → Option Value) (Lg : σ → List (Addr × Obj)) (P : Nat → σ → Prop) (st₀ : σ)
    (em : ∀ x, Mp m st₀ x = m x) (S : ∀ p ∈ Lg st₀, p ∈ news) (hP : P 0 st₀)
    (turn : ∀ W I it (i : Nat) st t h tk, i < n → FTo (Mp m) Lg (fun _ st => P (i + 1) st) h₀ env.locals { s with heap := h, toks := tk } I it [] W → P i st → (∀ p ∈ Lg st, p.1 ≠ I) → Fr h₀ env.locals h (fun y => if y = x then some (.int (a₀ + (i : Int)) t) else Mp m st y) → News h₀ env.locals h ((I, it) :: Lg st) →
      wpAny (model prog w) A (execs body env) W E { s with heap := h, toks := tk })
    (fin : ∀ st h tk, P n st → Fr h₀ env.locals h (Mp m st) → News h₀ env.locals h (Lg st) → Q .next { s with heap := h, toks := tk }) :
    wpAny (model prog w) A (pyIter (.ref r)) (fun it s₂ => LoopAtV prog w A h₀ env x body Q E it s₂) E s :=
  iter_rangeUnr hh hr hsmall hn (Fr.congr F em) (newsOf N S) fun I hI => range_rest (Mp m) Lg P (fun W it i st t h tk a T b c d e => turn W I it i st t h tk a T b c d e) fin n 0 st₀ (Nat.zero_add _) hP fun p hp => Nat.ne_of_lt (hI p hp)
end Mine
end
section
open PySem PySem.W PyProof.Rows
namespace Mine
local macro_rules | `(tactic| k_mem) => `(tactic| first | exact List.mem_cons_self .. | (refine List.mem_cons_of_mem _ ?_; k_mem))
local macro_rules | `(tactic| ktn_lt) => `(tactic| first
  | exact allLt_left (by assumption) | exact allLt_left (And.right (by assumption)) | exact allLt_left (And.right (And.right (by assumption))) | exact allLt_left (And.right (And.right (And.right (by assumption))))
  | exact allLt_left (allLt_of (by assumption)) | exact allLt_of (by assumption)
  | exact And.right (by assumption) | exact And.right (And.right (by assumption)) | exact And.right (And.right (And.right (by assumption))))
section Nums
variable {w : World} {p : Program} {loose : List Str} {mean : ExcName → Option Value} {mg mb : Str → Option Value}
theorem setL_some : ∀ {l : List Value} {k : Nat} {v : Value}, k < l.length → ki_setL l k v = some (l.set k v)
  | x :: r, 0, v, _ => rfl
  | x :: r, k + 1, v, h => by
    simp only [List.length_cons] at h
    simp only [ki_setL, setL_some (l := r) (k := k) (v := v) (by omega), List.set_cons_succ]
theorem r_setat {prog : Program} {w : World} {A : Around} {E : Value → Shared → Prop} {s : Shared} {h₀ : Heap} {L D : Addr} {m : Str → Option Value} {news news' : List (Addr × Obj)} {us : List Value} {n : Nat} {k : Int} {t : Tok} {v : Value} {Q : Unit → Shared → Prop}
    (F : Fr h₀ L s.heap m) (N : News h₀ L s.heap news) (h0 : 0 ≤ k) (h1 : k.toNat < us.length) (hz : us.length ≤ 1000) (U : Upd D (listOf us.toArray n) (listOf (us.set k.toNat v).toArray n) news news')
    (h : ∀ h', Fr h₀ L h' m → News h₀ L h' news' → Q () { s with heap := h' }) : wpAny (model prog w) A (setItem (.ref D) (.int k t) v) Q E s :=
  ki_set (its := us.toArray) F N h0 (by omega) (setL_some (l := us) h1) U h
theorem ints_set {vs : List Value} {ns : List Int} (h : IntsAre vs ns) : ∀ {k : Nat} {z : Int} {t : Tok}, IntsAre (vs.set k (.int z t)) (ns.set k z) := by
  induction h with
  | nil => intro k z t; exact .nil
  | cons i t0 _ ih =>
    intro k z t
    cases k with
    | zero => exact .cons _ _ (by assumption)
    | succ k => exact .cons _ _ ih
theorem getD_range {l : List Int} {i : Nat} {P : Int → Prop} (h : ∀ z ∈ l, P z) (hi : i < l.length) : P (l.getD i 0) := by
  rw [List.getD_eq_getElem?_getD, List.getElem?_eq_getElem hi]
  exact h _ (List.getElem_mem hi)
theorem lRot2 {a b : Addr × Obj} {l : List (Addr × Obj)} : ∀ p ∈ a :: b :: l, p ∈ a :: b :: l := lAll
local macro_rules | `(tactic| walk_at "setItem ref int") => `(tactic| (refine r_setat (by k_asm) (by k_asm) (by assumption) (by assumption) (by assumption) (by k_upd) ?_; intro h' F' N'; (try dsimp only at N'); (try k_sweep)))
local macro_rules | `(tactic| k_all) => `(tactic| assumption)
structure NSt where
  us : List Value
  ms : List Int
  n : Nat
  kv : Option Value
noncomputable def NumsSpec (w : World) (p : Program) (loose : List Str) (mean : ExcName → Option Value) (mg mb : Str → Option Value) : Prop :=
  ∀ {dp un : Nat} {gd : Option (List Code)} {cn : Str} {cs : Scope} {a : Addr} {ccd : Value} {cl : List (Str × Addr)} {outer : List Env} {A₀ : Around} {base h₀ : Heap} {L : Addr} {m : Str → Option Value} {news : List (Addr × Obj)} {s : Shared} {S : Addr} {vs : List Value} {ns : List Int}
    {Q E : Value → Shared → Prop},
    Below A₀ base outer h₀ → Fr h₀ L s.heap m → (kmake.heap_1 w.params).In h₀ → News h₀ L s.heap news → Top p loose mean mg mb h₀ → cs.kind = .function →
    h₀.IsList S vs.toArray → IntsAre vs ns → ns.length ≤ 63 →
    dp + 50 < recursionLimit → un + 8 * 50 < cLine →
    (∀ J us ms n' h' tk', Fr h₀ L h' m → News h₀ L h' ((J, W.listOf (List.toArray us) n') :: news) → IntsAre us ms → ms.length = 11 → (∀ z ∈ ms, 0 ≤ z ∧ z ≤ 100000000) → Q (.ref J) { s with heap := h', toks := tk' }) →
    wpAny (model PySem.Challenge.rw_we0032_01.row.prog w) (ktrTop dp un gd cn cs L a ccd cl outer) (call (.ref 241) [.ref S]) Q E s
local macro_rules | `(tactic| walk_at "exec For Name Call cons nil") => `(tactic| refine hold ?_)
local macro_rules | `(tactic| walk_at "pyIter ref") => `(tactic| refine hold ?_)
theorem nums_spec : NumsSpec w p loose mean mg mb := by
  w_top off
  unfold NumsSpec
  intro dp un gd cn cs a ccd cl outer A₀ base h₀ L m news s S vs ns Q E B F X N T hk hS hI hz hd hu hret
  refine wpAny_call ?_
  k_dflt ktr_enter
  have hS' := hS.at (fun o e => Fr.keep (by assumption) S o e)
  k_steps
  unfold Hold
  (rename Fr _ _ _ _ => hF; rename News _ _ _ _ => hN)
  refine' For_invVF hF ?k1 ?k2 ?_
  case k1 => exact rfl
  case k2 => exact rfl
  k_steps
  unfold Hold
  have hmin : (if (ns.length : Int) < 66 then (ns.length : Int) else 66) = (ns.length : Int) := if_pos (by omega)
  (rename IsRange _ _ _ _ _ _ _ _ => hR; rename Fr _ _ _ _ => hF; rename News _ _ _ _ => hN)
  rw [hmin] at hR
  rename (∀ p ∈ news, p.1 < _) => hal
  have hnl := fun p hp => Nat.ne_of_lt (hal p hp)
  refine range_st (n := ns.length) (by rfl) hR (small_one (by omega) (by omega) (by omega) (by omega)) (by rw [rangeSize_nat]; omega) hF hN (σ := NSt) (fun m st x => if x = Str.ofString "k" then st.kv else m x) (fun st => (_, W.listOf (List.toArray st.us) st.n) :: news)
    (fun i st => IntsAre st.us st.ms ∧ st.ms.length = 11 ∧ ∀ z ∈ st.ms, 0 ≤ z ∧ z ≤ 20 + 1000000 * (i : Int)) ⟨_, [1, 14, 13, 11, 1, 5, 9, 6, 7, 4, 3], 0, none⟩ (em1 rfl) lAll ⟨?_, rfl, ?_⟩ ?_ ?_
  · repeat (first | exact .nil | refine .cons _ _ ?_)
  · intro z hz9
    simp only [List.mem_cons, List.not_mem_nil, or_false] at hz9
    omega
  · clear hF hN
    rintro Wf I it i ⟨us, ms, n, kv⟩ t h5 tk5 hi hWf ⟨hus, hms, hzs⟩ hI hF hN
    dsimp only at hus hms hzs hF hN hI
    have hul := hus.length
    have hI1 := hI _ (.head _)
    have hI2 := Ne.symm hI1
    dsimp only at hI1 hI2 hnl
    have hq0 : 0 ≤ ((0 + (i : Int)).fmod 11) := Int.fmod_nonneg_of_pos _ (by decide)
    have hq1 : ((0 + (i : Int)).fmod 11) < 11 := Int.fmod_lt_of_pos _ (by decide)
    have hul9 : us.length ≤ 1000 := by omega
    have hq2 : ((0 + (i : Int)).fmod 11).toNat < us.length := by omega
    k_steps
    (rename Fr _ _ _ _ => hF; rename News _ _ _ _ => hN)
    refine hWf.end hF hN ⟨us.set _ _, ms.set _ _, n, some _⟩ mm1 lRot2 ?_ ⟨ints_set hus, by simpa using hms, ?_⟩
    · exact List.forall_mem_cons.mpr ⟨hI1, fun p hp => hI p (.tail _ hp)⟩
    intro z hz9
    have b0 : 0 ≤ (ns.getD (0 + (i : Int)).toNat 0).fmod 1000000 := Int.fmod_nonneg_of_pos _ (by decide)
    have b1 : (ns.getD (0 + (i : Int)).toNat 0).fmod 1000000 < 1000000 := Int.fmod_lt_of_pos _ (by decide)
    rcases List.mem_or_eq_of_mem_set hz9 with h | h
    · have := hzs z h
      push_cast
      omega
    · have := getD_range (l := ms) (i := ((0 + (i : Int)).fmod 11).toNat) (P := fun z => 0 ≤ z ∧ z ≤ 20 + 1000000 * (i : Int)) hzs (by omega)
      subst h
      push_cast
      omega
  · clear hF hN
    rintro ⟨us, ms, n, kv⟩ h5 tk5 ⟨hus, hms, hzs⟩ hF hN
    dsimp only at hus hms hzs hF hN
    k_steps
    (rename Fr h₀ _ _ _ => hF; rename News h₀ _ _ _ => hN)
    exact hret _ us ms n _ _ hF hN hus hms (fun z hz9 => by have := hzs z hz9; omega)
end Nums
end Mine
end
section
open PySem PySem.W PyProof.Rows
namespace Mine
theorem pick_to (vs : List Value) (k : Nat) : (slicePick vs.toArray none (some (k : Int)) none).toList = vs.take k := by
  have e : sliceBounds none (some (k : Int)) none vs.toArray.size = (((0 : Nat) : Int), ((min k vs.toArray.size : Nat) : Int), 1) := by
    simp only [sliceBounds, Option.getD_none, show (1 : Int) > 0 by decide, if_true, if_neg (show ¬ ((k : Int) < 0) by omega)]
    congr 1
    congr 1
    omega
  rw [kmk_pick_nat _ e]
  show (vs.drop 0).take (min k vs.toArray.size - 0) = _
  rw [List.drop_zero, Nat.sub_zero, List.size_toArray, kmk_take_min]
theorem pick_from (vs : List Value) (k : Nat) : (slicePick vs.toArray (some (k : Int)) none none).toList = vs.drop k := by
  have e : sliceBounds (some (k : Int)) none none vs.toArray.size = (((min k vs.toArray.size : Nat) : Int), ((vs.toArray.size : Nat) : Int), 1) := by
    simp only [sliceBounds, Option.getD_none, show (1 : Int) > 0 by decide, if_true, if_neg (show ¬ ((k : Int) < 0) by omega)]
    congr 1
    omega
  rw [kmk_pick_nat _ e]
  show (vs.drop (min k vs.toArray.size)).take (vs.toArray.size - min k vs.toArray.size) = _
  rw [List.size_toArray, kmk_drop_min, List.take_of_length_le (by rw [List.length_drop]; omega)]
section
variable {prog : Program} {w : World} {A : Around} {E : Value → Shared → Prop} {s : Shared} {h₀ : Heap} {L l l2 : Addr} {m : Str → Option Value} {news : List (Addr × Obj)} {value slice : Expr} {vs vs2 : List Value} {n n2 : Nat} {k : Nat} {j : Int} {u t : Tok} {Q : Value → Shared → Prop}
theorem r_cut_to (F : Fr h₀ L s.heap m) (N : News h₀ L s.heap news) (hm : (l, W.listOf vs.toArray n) ∈ news) (hz : vs.length ≤ 900) (hj : j = (k : Int))
    (h : ∀ D h', Fr h₀ L h' m → News h₀ L h' ((D, W.listOf (List.toArray (vs.take k)) 0) :: news) → (∀ p ∈ news, p.1 < D) → Q (.ref D) { s with heap := h' })
    (hs : subscripted slice false (.ref l) (.ref s.heap.objs.size) = operate [.ref s.heap.objs.size, .ref l] (getItem (.ref l) (.ref s.heap.objs.size)) := by with_unfolding_all rfl) (ht : ∀ r, letTemporaryGo value (.ref l) r = pure () := by intro _; with_unfolding_all rfl) :
    wpAny (model prog w) A (subscriptTail value slice (.ref l) (.ref s.heap.objs.size)) Q E { s with heap := s.heap.push { cls := .type "slice", data := .fields #[.none, .int j u, .none] } } := by
  subst hj
  exact kmk_slice_lit F N (N.isList hm) .none (.int _ _) (pick_to vs k) h hs ht (by rw [sizeLine_eq]; simp; omega)
theorem r_cut_from (F : Fr h₀ L s.heap m) (N : News h₀ L s.heap news) (hm : (l, W.listOf vs.toArray n) ∈ news) (hz : vs.length ≤ 900) (hj : j = (k : Int))
    (h : ∀ D h', Fr h₀ L h' m → News h₀ L h' ((D, W.listOf (List.toArray (vs.drop k)) 0) :: news) → (∀ p ∈ news, p.1 < D) → Q (.ref D) { s with heap := h' })
    (hs : subscripted slice false (.ref l) (.ref s.heap.objs.size) = operate [.ref s.heap.objs.size, .ref l] (getItem (.ref l) (.ref s.heap.objs.size)) := by with_unfolding_all rfl) (ht : ∀ r, letTemporaryGo value (.ref l) r = pure () := by intro _; with_unfolding_all rfl) :
    wpAny (model prog w) A (subscriptTail value slice (.ref l) (.ref s.heap.objs.size)) Q E { s with heap := s.heap.push { cls := .type "slice", data := .fields #[.int j u, .none, .none] } } := by
  subst hj
  exact kmk_slice_lit F N (N.isList hm) (.int _ _) .none (pick_from vs k) h hs ht (by rw [sizeLine_eq]; simp; omega)
theorem r_cat (F : Fr h₀ L s.heap m) (N : News h₀ L s.heap news) (hm : (l, W.listOf vs.toArray n) ∈ news) (hm2 : (l2, W.listOf vs2.toArray n2) ∈ news) (hz : vs.length ≤ 900) (hz2 : vs2.length ≤ 900)
    (h : ∀ D h', Fr h₀ L h' m → News h₀ L h' ((D, W.listOf (List.toArray (vs ++ vs2)) 0) :: news) → (∀ p ∈ news, p.1 < D) → Q (.ref D) { s with heap := h' }) :
    wpAny (model prog w) A (binaryOp .Add (.ref l) (.ref l2)) Q E s :=
  kmk_add_lit (its := vs.toArray) (its2 := vs2.toArray) F N (N.isList hm) (N.isList hm2) rfl h (by rw [sizeLine_eq]; simp; omega)
theorem r_at {x : Value} (N : News h₀ L s.heap news) (hm : (l, W.listOf vs.toArray n) ∈ news) (hj : j = (k : Int)) (hk : k ≤ 1000) (hx : vs[k]? = some x) (h : Q x s)
    (hs : subscripted slice false (.ref l) (.int j u) = operate [.ref l, .int j u] (getItem (.ref l) (.int j u)) := by with_unfolding_all rfl) (hg : ∀ r, letTemporaryGo value (.ref l) r = pure () := by intro _; with_unfolding_all rfl) :
    wpAny (model prog w) A (subscriptTail value slice (.ref l) (.int j u)) Q E s := by
  subst hj
  exact item_list (N.isList hm) (by omega) (by omega) (by rw [Int.toNat_natCast]; simpa using hx) h hs hg
theorem r_sign {x : Str} (hx : x = tx [43, 45, 42, 38, 124, 94]) (h0 : 0 ≤ j) (h5 : j < 6) (h : ∀ o : Op, Q (.str o.str s.toks) { s with toks := s.toks + 1 })
    (hs : subscripted slice false (.str x t) (.int j u) = operate [.str x t, .int j u] (getItem (.str x t) (.int j u)) := by with_unfolding_all rfl)
    (ht : ∀ r, letTemporaryGo value (.str x t) r = pure () := by intro _; with_unfolding_all rfl) :
    wpAny (model prog w) A (subscriptTail value slice (.str x t) (.int j u)) Q E s := by
  have e : ∃ o : Op, [43, 45, 42, 38, 124, 94][j.toNat]? = some o.code := by
    have : j.toNat = 0 ∨ j.toNat = 1 ∨ j.toNat = 2 ∨ j.toNat = 3 ∨ j.toNat = 4 ∨ j.toNat = 5 := by omega
    rcases this with q | q | q | q | q | q <;> rw [q]
    · exact ⟨.add, rfl⟩
    · exact ⟨.sub, rfl⟩
    · exact ⟨.mul, rfl⟩
    · exact ⟨.and, rfl⟩
    · exact ⟨.or, rfl⟩
    · exact ⟨.xor, rfl⟩
  obtain ⟨o, ho⟩ := e
  have hq := h o
  rw [opStr_tx] at hq
  exact r_item hx h0 ho (by decide) hq hs ht
end
/-- a for over a list that the for's own head makes -/
theorem for_new {prog : Program} {w : World} {A : Around} {E : Value → Shared → Prop} {Q : Flow → Shared → Prop} {s : Shared} {env : Env} {h₀ : Heap} {target iter : Expr} {body : List Stmt} {pos : Pos} {m : Str → Option Value} {news : List (Addr × Obj)}
    {vs : List Value} (hh : A.handled = none) (F : Fr h₀ env.locals s.heap m)
    (hev : wpAny (model prog w) A (eval iter env) (fun v s' => ∃ l n h' tk, v = .ref l ∧ s' = { s with heap := h', toks := tk } ∧ Fr h₀ env.locals h' m ∧ News h₀ env.locals h' ((l, listOf vs.toArray n) :: news)) E s)
    {σ : Type} (Mp : (Str → Option Value) → σ → Str → Option Value) (Lg : σ → List (Addr × Obj)) (P : List Value → σ → Prop) (st₀ : σ)
    (em : ∀ x, Mp m st₀ x = m x) (S : ∀ p ∈ Lg st₀, p ∈ news) (hP : P [] st₀)
    (turn : ∀ W l n I it done v rest st h tk, vs = done ++ v :: rest → FTo (Mp m) (fun st => (l, listOf vs.toArray n) :: Lg st) P h₀ env.locals { s with heap := h, toks := tk } I it (done ++ [v]) W → P done st → (∀ p ∈ (l, listOf vs.toArray n) :: Lg st, p.1 ≠ I) → Fr h₀ env.locals h (Mp m st) → News h₀ env.locals h ((I, it) :: (l, listOf vs.toArray n) :: Lg st) →
      wpAny (model prog w) A (assign target env v) (fun _ s₂ => wpAny (model prog w) A (execs body env) W E s₂) E { s with heap := h, toks := tk })
    (fin : ∀ l n st h tk, P vs st → Fr h₀ env.locals h (Mp m st) → News h₀ env.locals h ((l, listOf vs.toArray n) :: Lg st) → Q .next { s with heap := h, toks := tk })
    (hs : ∀ x, foldedSetIterable iter env x = pure x := by intro _; rfl)
    (hE : PassesOwn (model prog w) A env E := by passes_own) :
    wpAny (model prog w) A (exec (.For target iter body [] pos) env) Q E s := by
  refine For_turns F (wpAny_mono hev (fun v s₁ ⟨l, n, h', tk, e1, e2, F', N'⟩ => ?_) fun _ _ x => x) hs hE
  subst e1
  subst e2
  refine iter_listTurns (s := { s with heap := h', toks := tk }) (news := (l, listOf vs.toArray n) :: Lg st₀) hh (Fr.congr F' em) (newsOf N' fun p hp => ?_) (.head _) rfl rfl fun I hI => ?_
  · rcases List.mem_cons.mp hp with rfl | hp
    · exact .head _
    · exact .tail _ (S p hp)
  · exact for_rest (s := { s with heap := h', toks := tk }) (Mp m) (fun st => (l, listOf vs.toArray n) :: Lg st) P (fun _ _ _ => .head _) (fun W I it done v rest st h tk a T b c d e => turn W l n I it done v rest st h tk a T b c d e) (fun st h tk a b c => fin l n st h tk a b c) vs [] st₀ rfl hP fun p hp => Nat.ne_of_lt (hI p hp)
end Mine
end
section
open PySem PySem.W PyProof.Rows
namespace Mine
local macro_rules | `(tactic| k_mem) => `(tactic| first | exact List.mem_cons_self .. | (refine List.mem_cons_of_mem _ ?_; k_mem))
local macro_rules | `(tactic| ktn_lt) => `(tactic| first
  | exact allLt_left (by assumption) | exact allLt_left (And.right (by assumption)) | exact allLt_left (And.right (And.right (by assumption))) | exact allLt_left (And.right (And.right (And.right (by assumption))))
  | exact allLt_left (allLt_of (by assumption)) | exact allLt_of (by assumption)
  | exact And.right (by assumption) | exact And.right (And.right (by assumption)) | exact And.right (And.right (And.right (by assumption))))
inductive RowIn (news : List (Addr × Obj)) : List Value → List Tree → Prop
  | nil : RowIn news [] []
  | cons {v : Value} {t : Tree} {vs : List Value} {ts : List Tree} : TreeIn news v t → RowIn news vs ts → RowIn news (v :: vs) (t :: ts)
theorem RowIn.mono {news news' : List (Addr × Obj)} {vs : List Value} {ts : List Tree} (h : RowIn news vs ts) (hs : ∀ p ∈ news, p ∈ news') : RowIn news' vs ts := by
  induction h with
  | nil => exact .nil
  | cons h _ ih => exact .cons (h.mono hs) ih
theorem RowIn.length {news : List (Addr × Obj)} {vs : List Value} {ts : List Tree} (h : RowIn news vs ts) : vs.length = ts.length := by
  induction h with
  | nil => rfl
  | cons _ _ ih => simp [ih]
theorem RowIn.append {news : List (Addr × Obj)} {vs vs' : List Value} {ts ts' : List Tree} (h : RowIn news vs ts) (k : RowIn news vs' ts') : RowIn news (vs ++ vs') (ts ++ ts') := by
  induction h with
  | nil => exact k
  | cons h _ ih => exact .cons h ih
theorem row_split {news : List (Addr × Obj)} {us : List Value} {ts : List Tree} (h : RowIn news us ts) : ∀ {k : Nat}, k + 1 < ts.length →
    ∃ ua x1 x2 ub ta t1 t2 tb, us = ua ++ x1 :: x2 :: ub ∧ ts = ta ++ t1 :: t2 :: tb ∧ ua.length = k ∧ RowIn news ua ta ∧ TreeIn news x1 t1 ∧ TreeIn news x2 t2 ∧ RowIn news ub tb := by
  induction h with
  | nil => intro k h; simp at h
  | @cons v t vs ts h1 h2 ih =>
    intro k hk
    cases k with
    | zero =>
      cases h2 with
      | nil => simp at hk
      | cons h3 h4 => exact ⟨[], _, _, _, [], _, _, _, rfl, rfl, rfl, .nil, h1, h3, h4⟩
    | succ k =>
      obtain ⟨ua, x1, x2, ub, ta, t1, t2, tb, e1, e2, e3, r1, r2, r3, r4⟩ := ih (k := k) (by simp only [List.length_cons] at hk; omega)
      exact ⟨v :: ua, x1, x2, ub, t :: ta, t1, t2, tb, by rw [e1]; rfl, by rw [e2]; rfl, by simp [e3], .cons h1 r1, r2, r3, r4⟩
theorem ints_mem {vs : List Value} {ns : List Int} (h : IntsAre vs ns) : ∀ {v : Value}, v ∈ vs → ∃ z t, v = .int z t ∧ z ∈ ns := by
  induction h with
  | nil => intro v hv; cases hv
  | cons i t _ ih =>
    intro v hv
    rcases List.mem_cons.mp hv with rfl | hv
    · exact ⟨i, t, rfl, .head _⟩
    · obtain ⟨z, t, e, hz⟩ := ih hv
      exact ⟨z, t, e, .tail _ hz⟩
noncomputable def lsum : List Tree → Nat
  | [] => 0
  | t :: r => t.leaves + lsum r
theorem lsum_app : ∀ (a b : List Tree), lsum (a ++ b) = lsum a + lsum b
  | [], b => by simp [lsum]
  | t :: r, b => by rw [List.cons_append, lsum, lsum, lsum_app r b]; omega
theorem lsum_ones : ∀ (a : List Tree), (∀ t ∈ a, t.leaves = 1) → lsum a = a.length
  | [], _ => rfl
  | t :: r, h => by rw [lsum, h t (.head _), lsum_ones r fun x hx => h x (.tail _ hx), List.length_cons]; omega
theorem lRot4 {a b c d : Addr × Obj} {l : List (Addr × Obj)} : ∀ p ∈ b :: c :: d :: a :: l, p ∈ a :: b :: c :: d :: l := fun p hp => by
  simp only [List.mem_cons] at hp ⊢
  rcases hp with h | h | h | h | h <;> simp only [h, true_or, or_true]
theorem lS {a b c d e f i l r : Addr × Obj} {le : List (Addr × Obj)} : ∀ p ∈ i :: l :: a :: e :: le, p ∈ a :: b :: c :: d :: e :: f :: i :: l :: r :: le := fun p hp => by
  simp only [List.mem_cons] at hp ⊢
  rcases hp with h | h | h | h | h <;> simp only [h, true_or, or_true]
theorem item_op {i : Int} (h0 : 0 ≤ i) (h5 : i < 6) : ∃ o : Op, Txt.item (Str.ofString "+-*&|^") i = o.str := by
  have : i = 0 ∨ i = 1 ∨ i = 2 ∨ i = 3 ∨ i = 4 ∨ i = 5 := by omega
  rcases this with rfl | rfl | rfl | rfl | rfl | rfl
  · exact ⟨.add, by decide +kernel⟩
  · exact ⟨.sub, by decide +kernel⟩
  · exact ⟨.mul, by decide +kernel⟩
  · exact ⟨.and, by decide +kernel⟩
  · exact ⟨.or, by decide +kernel⟩
  · exact ⟨.xor, by decide +kernel⟩
theorem lit_ops : Str.ofString "+-*&|^" = tx [43, 45, 42, 38, 124, 94] := by decide +kernel
section TreeP
variable {w : World} {p : Program} {loose : List Str} {mean : ExcName → Option Value} {mg mb : Str → Option Value}
noncomputable def TreeSpec (w : World) (p : Program) (loose : List Str) (mean : ExcName → Option Value) (mg mb : Str → Option Value) : Prop :=
  ∀ {dp un : Nat} {gd : Option (List Code)} {cn : Str} {cs : Scope} {a : Addr} {ccd : Value} {cl : List (Str × Addr)} {outer : List Env} {A₀ : Around} {base h₀ : Heap} {L : Addr} {m : Str → Option Value} {news : List (Addr × Obj)} {s : Shared} {J : Addr} {us : List Value} {ms : List Int} {n : Nat}
    {Q E : Value → Shared → Prop},
    Below A₀ base outer h₀ → Fr h₀ L s.heap m → (kmake.heap_1 w.params).In h₀ → News h₀ L s.heap news → Top p loose mean mg mb h₀ → cs.kind = .function →
    (J, W.listOf (List.toArray us) n) ∈ news → IntsAre us ms → ms.length = 11 → (∀ z ∈ ms, 0 ≤ z ∧ z ≤ 100000000) →
    dp + 50 < recursionLimit → un + 8 * 50 < cLine →
    (∀ r t nw h' tk', Fr h₀ L h' m → News h₀ L h' nw → (∀ p ∈ news, p ∈ nw) → TreeIn nw r t → t.Fine → t.leaves = 6 → Q r { s with heap := h', toks := tk' }) →
    wpAny (model PySem.Challenge.rw_we0032_01.row.prog w) (ktrTop dp un gd cn cs L a ccd cl outer) (call (.ref 246) [.ref J]) Q E s
structure TSt where
  R : Addr
  us : List Value
  rn : Nat
  ts : List Tree
  l : List (Addr × Obj)
  kv : Option Value
  nv : Option Value
local macro_rules | `(tactic| walk_at "exec Assign cons ListComp") => `(tactic| refine hold ?_)
local macro_rules | `(tactic| walk_at "exec For Name Subscript cons nil") => `(tactic| refine hold ?_)
local macro_rules | `(tactic| walk_at "subscriptTail Name Slice ref ref") => `(tactic| ((rename Fr _ _ _ _ => F'); (rename News _ _ _ _ => N'); first
  | (refine r_cut_to (s := ⟨_, _, _, _, _⟩) F' N' (by k_mem) (by assumption) (by assumption) ?_; intro D' h' F' N' l1; (try k_lt l1); (try k_sweep))
  | (refine r_cut_from (s := ⟨_, _, _, _, _⟩) F' N' (by k_mem) (by assumption) (by assumption) ?_; intro D' h' F' N' l1; (try k_lt l1); (try k_sweep))
  | refine hold ?_))
local macro_rules | `(tactic| walk_at "EMX") => `(tactic| (intro x; dsimp only; by_cases e0 : x = Str.ofString "number"; (subst e0; rfl); by_cases e1 : x = Str.ofString "k"; (subst e1; rfl); by_cases e2 : x = Str.ofString "row"; (subst e2; rfl); simp only [if_neg e0, if_neg e1, if_neg e2]))
local macro_rules | `(tactic| walk_at "LEN") => `(tactic| ((try simp only [List.length_append, List.length_cons, List.length_nil, List.length_take, List.length_drop]); omega))
local macro_rules | `(tactic| walk_at "binaryOp Mod int int") => `(tactic| refine mod_int (by first | decide | assumption) ?_)
local macro_rules | `(tactic| walk_at "call builtin:len") => `(tactic| (refine r_len (by k_asm) (by k_mem) (by assumption) (by omega) ?_; intro _ _))
local macro_rules | `(tactic| walk_at "subscriptTail Constant BinOp str int") => `(tactic| (refine r_sign (by exact lit_ops) (by assumption) (by assumption) ?_; intro _))
local macro_rules | `(tactic| walk_at "subscriptTail Name Name ref int") => `(tactic| (refine r_at (by k_asm) (by k_mem) (by assumption) (by omega) (by assumption) ?_))
local macro_rules | `(tactic| walk_at "subscriptTail Name BinOp ref int") => `(tactic| (refine r_at (by k_asm) (by k_mem) (by assumption) (by omega) (by assumption) ?_))
local macro_rules | `(tactic| walk_at "binaryOp Add ref ref") => `(tactic| (refine r_cat (by k_asm) (by k_asm) (by k_mem) (by k_mem) (by walk_at "LEN") (by walk_at "LEN") ?_; intro D' h' F' N' l1; (try k_lt l1); (try k_sweep)))
theorem tree_spec : TreeSpec w p loose mean mg mb := by
  w_top off
  unfold TreeSpec
  intro dp un gd cn cs a ccd cl outer A₀ base h₀ L m news s J us ms n Q E B F X N T hk hmJ hI hms hzs hd hu hret
  refine wpAny_call ?_
  k_dflt ktr_enter
  k_steps
  unfold Hold
  k_dflt (refine LCg.Assign_ListComp_U (F₀ := by k_asm) (by rfl) (by with_unfolding_all rfl) (by with_unfolding_all rfl) (by decide) (by rfl) (by decide) (by rfl) (by rfl) (by rfl) ?_)
  k_steps
  unfold Hold
  (rename Fr _ _ _ _ => hF; rename News _ _ _ _ => hN)
  have hul := hI.length
  have hI9 := hI
  refine r_cut_from (s := ⟨_, _, _, _, _⟩) (k := 5) hF hN hmJ (by omega) rfl ?_
  clear hF hN
  intro D0 h4 hF hN hal4
  generalize hw0 : us.drop 5 = ws0 at hF hN
  have hI0 : IntsAre ws0 (ms.drop 5) := hw0 ▸ hI.drop 5
  have hwl := hI0.length
  simp only [List.length_drop, hms] at hwl
  refine LCg.CompSrc.ledger (by rfl) hF hN (by k_mem) (by rw [sizeLine_eq]; simp; omega) ?_
  intro g
  refine restU (fun i ys (nw : List (Addr × Obj)) => ∃ ts, RowIn nw ys ts ∧ ts.length = i ∧ (∀ t ∈ ts, t.Fine ∧ t.leaves = 1) ∧ (∀ p ∈ (D0, W.listOf (List.toArray ws0) 0) :: news, p ∈ nw)) ?_ ?_ _ 0 [] _ (Nat.zero_add _) ⟨[], .nil, rfl, fun _ h => (nomatch h), fun _ h => h⟩
  · clear hF hN
    rintro i v ys nw I5 oI C5 oC D5 m5 h5 tk5 E5 hi hv ⟨ts, hrow, htl, hts, hsub⟩ hC hxx hF hN hoff hne
    obtain ⟨z, tz, rfl, hz⟩ := ints_mem hI0 (v := v) (List.mem_of_getElem? (by simpa using hv))
    have hz2 := hzs z (List.mem_of_mem_drop hz)
    k_steps
    (rename Fr _ _ _ _ => hF; rename News _ _ _ _ => hN)
    rename_i hal8
    obtain ⟨q1, q2, q3, q4⟩ := hal8
    refine LCg.CompEnd.intro hF hN ((_, _) :: nw) lRot4 ⟨⟨Nat.ne_of_gt q1, Nat.ne_of_gt q2, Nat.ne_of_gt q3⟩, hoff⟩ (.inr ⟨_, .tail _ (hsub _ (.head _)), rfl, _, rfl⟩) ⟨ts ++ [.leaf (z.fmod 10)], (hrow.mono (lSkip lAll)).append (.cons (.leaf (.head _)) .nil), by simp [htl], ?_, fun p hp => .tail _ (hsub p hp)⟩
    intro t ht
    rcases List.mem_append.mp ht with ht | ht
    · exact hts t ht
    · rw [List.mem_singleton.mp ht]
      have b0 : 0 ≤ z.fmod 10 := Int.fmod_nonneg_of_pos _ (by decide)
      have b1 : z.fmod 10 < 10 := Int.fmod_lt_of_pos _ (by decide)
      exact ⟨⟨b0, by omega⟩, rfl⟩
  · clear hF hN
    rintro ys nw ⟨ts, hrow, htl, hts, hsub⟩
    unfold LCg.FinA
    intro D7 h7 tk7 hF hN off7
    have hylen := hrow.length
    rw [List.size_toArray, hwl] at htl
    k_steps
    unfold Hold
    (rename Fr _ _ _ _ => hF; rename News _ _ _ _ => hN)
    refine for_new (news := (D7, W.listOf (List.toArray ys) ys.length) :: nw) (vs := us.take 5) (by rfl) hF ?_ (σ := TSt) (fun m st x => if x = Str.ofString "number" then st.nv else if x = Str.ofString "k" then st.kv else if x = Str.ofString "row" then some (.ref st.R) else m x) (fun st => (st.R, W.listOf (List.toArray st.us) st.rn) :: st.l)
      (fun done st => RowIn st.l st.us st.ts ∧ st.ts.length + done.length = 6 ∧ (∀ t ∈ st.ts, t.Fine) ∧ lsum st.ts = 6 ∧ (∀ p ∈ nw, p ∈ st.l)) ⟨D7, ys, ys.length, ts, nw, none, none⟩ ?_ ?_ ⟨hrow, by simp [htl], fun t ht => (hts t ht).1, ?_, fun _ h => h⟩ ?_ ?_
    · k_steps
      unfold Hold
      (rename Fr _ _ _ _ => hF; rename News _ _ _ _ => hN)
      refine r_cut_to (s := ⟨_, _, _, _, _⟩) (k := 5) hF hN (by exact .tail _ (hsub _ (.tail _ hmJ))) (by omega) rfl ?_
      intro D h' F' N' l1
      exact ⟨_, _, _, _, rfl, rfl, F', N'⟩
    · walk_at "EMX"
    · exact lAll
    · rw [lsum_ones ts fun t ht => (hts t ht).2, htl]
    · clear hF hN
      rintro Wf l n I it done v rest ⟨R, vs, rn, tr, le, kv, nv⟩ h8 tk8 hvs hWf ⟨p1, p2, p3, p4, p5⟩ hI hF hN
      dsimp only at p1 p2 p3 p4 p5 hI hF hN ⊢
      obtain ⟨z, tz, rfl, hz⟩ := ints_mem (hI9.take 5) (v := v) (by rw [hvs]; simp)
      have hz2 := hzs z (List.mem_of_mem_take hz)
      have hdl := congrArg List.length hvs
      simp only [List.length_take, List.length_append, List.length_cons, hul, hms] at hdl
      have hvl := p1.length
      have hlen9 : (List.toArray vs).size = tr.length := by rw [List.size_toArray, hvl]
      have htr : 2 ≤ tr.length ∧ tr.length ≤ 6 := by omega
      have hne : ((tr.length : Nat) : Int) - 1 ≠ 0 := by omega
      have f0 : 0 ≤ (z.fdiv 6).fmod (((tr.length : Nat) : Int) - 1) := Int.fmod_nonneg_of_pos _ (by omega)
      have f1 : (z.fdiv 6).fmod (((tr.length : Nat) : Int) - 1) < ((tr.length : Nat) : Int) - 1 := Int.fmod_lt_of_pos _ (by omega)
      obtain ⟨kk, hkk⟩ := Int.eq_ofNat_of_zero_le f0
      have hkk1 : (z.fdiv 6).fmod (((tr.length : Nat) : Int) - 1) + 1 = ((kk + 1 : Nat) : Int) := by rw [hkk]; rfl
      have hkk2 : (z.fdiv 6).fmod (((tr.length : Nat) : Int) - 1) + 2 = ((kk + 2 : Nat) : Int) := by rw [hkk]; rfl
      obtain ⟨ua, x1, x2, ub, ta, t1, t2, tb, e1, e2, e3, g1, g2, g3, g4⟩ := row_split p1 (k := kk) (by omega)
      have hx1 : vs[kk]? = some x1 := by rw [e1, ← e3]; simp
      have hx2 : vs[kk + 1]? = some x2 := by rw [e1, ← e3, List.getElem?_append_right (by omega)]; simp
      have hto : vs.take kk = ua := by rw [e1, ← e3]; simp
      have hfr : vs.drop (kk + 2) = ub := by rw [e1, ← e3, List.drop_append]; simp
      have hl900 : vs.length ≤ 900 := by omega
      have fs0 : 0 ≤ z.fmod 6 := Int.fmod_nonneg_of_pos _ (by decide)
      have fs1 : z.fmod 6 < 6 := Int.fmod_lt_of_pos _ (by decide)
      k_steps
      obtain ⟨_, mT, _⟩ := ‹_ < _ ∧ I < _ ∧ l < _ ∧ R < _ ∧ AllLt _ le›
      obtain ⟨_, _, _, _, _, mR, _⟩ := ‹_ < _ ∧ _ < _ ∧ _ < _ ∧ _ < _ ∧ _ < _ ∧ I < _ ∧ l < _ ∧ R < _ ∧ AllLt _ le›
      obtain ⟨o, ho⟩ := item_op fs0 fs1
      (rename Fr _ _ _ _ => hF; rename News _ _ _ _ => hN)
      rw [ho, hto, hfr] at hN
      refine hWf.end hF hN ⟨_, ua ++ [.ref _] ++ ub, 0, ta ++ [.node o t1 t2] ++ tb, (_, _) :: le, some _, some _⟩ (by walk_at "EMX") lS ?_ ⟨?_, ?_, ?_, ?_, ?_⟩
      · exact List.forall_mem_cons.mpr ⟨hI _ (.head _), List.forall_mem_cons.mpr ⟨Nat.ne_of_gt mR, List.forall_mem_cons.mpr ⟨Nat.ne_of_gt mT, fun p hp => hI p (.tail _ (.tail _ hp))⟩⟩⟩
      · exact ((g1.mono (lSkip lAll)).append (.cons (.node (.head _) (g2.mono (lSkip lAll)) (g3.mono (lSkip lAll))) .nil)).append (g4.mono (lSkip lAll))
      · have := congrArg List.length e2
        simp only [List.length_append, List.length_cons, List.length_nil] at this ⊢
        omega
      · intro t ht
        rw [e2] at p3
        simp only [List.mem_append, List.mem_cons, List.not_mem_nil, or_false] at ht p3
        rcases ht with (ht | rfl) | ht
        · exact p3 t (.inl ht)
        · exact ⟨p3 t1 (.inr (.inl rfl)), p3 t2 (.inr (.inr (.inl rfl)))⟩
        · exact p3 t (.inr (.inr (.inr ht)))
      · rw [e2] at p4
        simp only [lsum_app, lsum, Tree.leaves] at p4 ⊢
        omega
      · exact fun p hp => .tail _ (p5 p hp)
    · clear hF hN
      rintro l n ⟨R, vs, rn, tr, le, kv, nv⟩ h8 tk8 ⟨p1, p2, p3, p4, p5⟩ hF hN
      dsimp only at p1 p2 p3 p4 p5 hF hN ⊢
      simp only [List.length_take, hul, hms] at p2
      cases p1 with
      | nil => simp at p2
      | cons g1 g2 =>
        cases g2 with
        | cons _ _ => simp at p2
        | nil =>
          k_steps
          (rename Fr h₀ _ _ _ => hF; rename News h₀ _ _ _ => hN)
          simp only [lsum] at p4
          exact hret _ _ _ _ _ hF hN (fun p hp => .tail _ (.tail _ (p5 p (hsub p (.tail _ hp))))) (g1.mono fun p hp => .tail _ (.tail _ hp)) (p3 _ (.head _)) (by omega)
end TreeP
end Mine
end
section
open PySem PySem.W PyProof.Rows
namespace Mine
/-! the program's text is cut as it was glued -/
noncomputable def Stm.syms : Stm → List Int
  | .lay r i => [((r - 32 : Nat) : Int) + 256, 22, ((48 + i.toNat : Nat) : Int) + 256, 12]
  | .deed a b o => [(a : Int) + 256, o.deed, (b : Int) + 256, 12]
noncomputable def symsOf (l : List Stm) : List Int := l.flatMap Stm.syms
noncomputable def Stm.Good : Stm → Prop
  | .lay r i => Letter r ∧ 0 ≤ i ∧ i ≤ 9
  | .deed a b _ => Letter a ∧ Letter b
theorem symsOf_append (a b : List Stm) : symsOf (a ++ b) = symsOf a ++ symsOf b := by simp [symsOf]
theorem symsOf_cons (a : Stm) (b : List Stm) : symsOf (a :: b) = a.syms ++ symsOf b := by simp [symsOf]
theorem codesOf_cons (a : Stm) (b : List Stm) : codesOf (a :: b) = a.codes ++ codesOf b := by simp [codesOf]
theorem syms_le : ∀ l : List Stm, (symsOf l).length = 4 * l.length
  | [] => rfl
  | x :: r => by
    have := syms_le r
    rw [symsOf_cons, List.length_append, List.length_cons, this]
    cases x <;> simp [Stm.syms] <;> omega
theorem names_split {o : Op} {l r : Tree} {ns : List Nat} (h : NamesOk (.node o l r) ns) : ∃ a b u, ns = a :: b :: u ∧
    (reg r ≤ reg l → NamesOk l ns ∧ NamesOk r (b :: u)) ∧ (¬ reg r ≤ reg l → NamesOk r (b :: a :: u) ∧ NamesOk l (a :: u)) ∧ Letter a ∧ Letter b := by
  obtain ⟨hr, hl, hx⟩ := h
  have p1 := reg_pos l
  have p2 := reg_pos r
  have hr' : reg l ≤ ns.length ∧ reg r ≤ ns.length ∧ 2 ≤ ns.length ∧ (reg l = reg r → reg l + 1 ≤ ns.length) := by
    unfold reg at hr
    split at hr <;> omega
  match ns, hr', hl, hx with
  | a :: b :: u, hr', hl, hx =>
    simp only [List.length_cons] at hl hr'
    refine ⟨a, b, u, rfl, fun hc => ⟨⟨by simp only [List.length_cons]; omega, by simp only [List.length_cons]; omega, hx⟩, ⟨by simp only [List.length_cons]; omega, by simp only [List.length_cons]; omega, fun z hz => hx z (.tail _ hz)⟩⟩, fun hc => ⟨⟨by simp only [List.length_cons]; omega, by simp only [List.length_cons]; omega, ?_⟩, ⟨by simp only [List.length_cons]; omega, by simp only [List.length_cons]; omega, ?_⟩⟩, hx a (.head _), hx b (.tail _ (.head _))⟩
    · intro z hz
      simp only [List.mem_cons] at hz hx
      rcases hz with h | h | h
      · exact hx z (.inr (.inl h))
      · exact hx z (.inl h)
      · exact hx z (.inr (.inr h))
    · intro z hz
      simp only [List.mem_cons] at hz hx
      rcases hz with h | h
      · exact hx z (.inl h)
      · exact hx z (.inr (.inr h))
theorem compile_good : ∀ (t : Tree) (ns : List Nat), t.Fine → NamesOk t ns → ∀ s ∈ compile t ns, s.Good
  | .leaf i, ns, hf, hn, s, hs => by
    obtain ⟨hr, hl, hx⟩ := hn
    match ns, hr, hx with
    | x :: u, _, hx =>
      simp only [compile, List.mem_singleton, List.headD_cons] at hs
      subst hs
      exact ⟨hx x (.head _), hf.1, hf.2⟩
  | .node o l r, ns, hf, hn, s, hs => by
    obtain ⟨a, b, u, rfl, k1, k2, la, lb⟩ := names_split hn
    unfold compile at hs
    simp only [List.headD_cons, List.tail_cons] at hs
    by_cases hc : reg r ≤ reg l
    · rw [if_pos hc, List.mem_append, List.mem_append, List.mem_singleton] at hs
      rcases hs with (hs | hs) | hs
      · exact compile_good l _ hf.1 (k1 hc).1 s hs
      · exact compile_good r _ hf.2 (k1 hc).2 s hs
      · subst hs; exact ⟨la, lb⟩
    · rw [if_neg hc, List.mem_append, List.mem_append, List.mem_singleton] at hs
      rcases hs with (hs | hs) | hs
      · exact compile_good r _ hf.2 (k2 hc).1 s hs
      · exact compile_good l _ hf.1 (k2 hc).2 s hs
      · subst hs; exact ⟨la, lb⟩
theorem look_none {c : Nat} (h : (tab.all fun p => !(Nat.beq (p.1.headD 0) c)) = true) (l : List Nat) : look (c :: l) = none := by
  unfold look
  have : tab.find? (fun p => p.1 == c :: l) = none := by
    rw [List.find?_eq_none]
    intro p hp hq
    have e : p.1 = c :: l := eq_of_beq hq
    have := (List.all_eq_true.mp h) p hp
    rw [e] at this
    simp at this
  rw [this]; rfl
theorem look_comma (x : Nat) (l : List Nat) : look (44 :: x :: l) = none := by
  unfold look
  have : tab.find? (fun p => p.1 == 44 :: x :: l) = none := by
    rw [List.find?_eq_none]
    intro p hp hq
    have e : p.1 = 44 :: x :: l := eq_of_beq hq
    have h2 : (tab.all fun p => !(Nat.beq (p.1.headD 0) 44) || Nat.beq p.1.length 1) = true := by decide +kernel
    have := (List.all_eq_true.mp h2) p hp
    rw [e] at this
    simp at this
  rw [this]; rfl
theorem scan_word {c : Nat} {l : List Nat} {r : List Int} (h : (tab.all fun p => !(Nat.beq (p.1.headD 0) c)) = true) (k : Scans l r) : Scans (c :: l) (((c : Int) + 256) :: r) := by
  have h3 : look ((c :: l).take 3) = none := by rw [List.take_succ_cons]; exact look_none h _
  have h2 : look ((c :: l).take 2) = none := by rw [List.take_succ_cons]; exact look_none h _
  have h1 : look ((c :: l).take 1) = none := by rw [List.take_succ_cons]; exact look_none h _
  have hc : cut (c :: l) = 1 := by unfold cut; rw [h3, h2]; rfl
  have hs : sym (c :: l) = (c : Int) + 256 := by unfold sym; rw [hc, h1, List.headD_cons, Option.getD_none]; omega
  rw [← hs]
  exact .step (by rw [hc]; exact k)
theorem scan1 {c : Nat} {l : List Nat} {r : List Int} {z : Int} (h3 : look ((c :: l).take 3) = none) (h2 : look ((c :: l).take 2) = none) (h1 : look [c] = some z) (k : Scans l r) : Scans (c :: l) (z :: r) := by
  have hc : cut (c :: l) = 1 := by unfold cut; rw [h3, h2]; rfl
  have hs : sym (c :: l) = z := by
    unfold sym; rw [hc]
    show (look [c]).getD _ = z
    rw [h1]; rfl
  rw [← hs]
  exact .step (by rw [hc]; exact k)
theorem scan2 {c d : Nat} {l : List Nat} {r : List Int} {z : Int} (h3 : look ((c :: d :: l).take 3) = none) (h2 : look [c, d] = some z) (k : Scans l r) : Scans (c :: d :: l) (z :: r) := by
  have h2' : look ((c :: d :: l).take 2) = some z := h2
  have hc : cut (c :: d :: l) = 2 := by unfold cut; rw [h3, h2']; rfl
  have hs : sym (c :: d :: l) = z := by
    unfold sym; rw [hc, h2']; rfl
  rw [← hs]
  exact .step (by rw [hc]; exact k)
theorem scan_comma {l : List Nat} {r : List Int} (k : Scans l r) : Scans (44 :: l) (12 :: r) := by
  cases l with
  | nil =>
    cases k
    have hc : cut [44] = 3 := by decide +kernel
    have hs : sym [44] = 12 := by decide +kernel
    have : Scans [44] (sym [44] :: []) := .step (by rw [hc]; exact .nil)
    rwa [hs] at this
  | cons x l => exact scan1 (by rw [List.take_succ_cons, List.take_succ_cons]; exact look_comma _ _) (by rw [List.take_succ_cons, List.take_succ_cons]; exact look_comma _ _) (by decide +kernel) k
theorem scan_digit (i : Int) (h0 : 0 ≤ i) (h9 : i ≤ 9) {l : List Nat} {r : List Int} (k : Scans l r) : Scans (61 :: (48 + i.toNat) :: 44 :: l) (22 :: (((48 + i.toNat : Nat) : Int) + 256) :: 12 :: r) := by
  have e : i.toNat = 0 ∨ i.toNat = 1 ∨ i.toNat = 2 ∨ i.toNat = 3 ∨ i.toNat = 4 ∨ i.toNat = 5 ∨ i.toNat = 6 ∨ i.toNat = 7 ∨ i.toNat = 8 ∨ i.toNat = 9 := by omega
  generalize i.toNat = j at e
  have kc := scan_comma k
  rcases e with rfl | rfl | rfl | rfl | rfl | rfl | rfl | rfl | rfl | rfl <;>
    exact scan1 (show look [61, _, 44] = none by decide +kernel) (show look [61, _] = none by decide +kernel) (by decide +kernel) (scan_word (by decide +kernel) kc)
theorem scan_deed (o : Op) {b : Nat} (hb : Letter b) {l : List Nat} {r : List Int} (k : Scans l r) : Scans (o.code :: 61 :: b :: 44 :: l) (o.deed :: ((b : Int) + 256) :: 12 :: r) := by
  have kc := scan_comma k
  have hw : (tab.all fun p => !(Nat.beq (p.1.headD 0) b)) = true := by rcases hb with rfl | rfl | rfl <;> decide +kernel
  have kw := scan_word hw kc
  refine scan2 ?_ ?_ kw
  · show look [o.code, 61, b] = none
    rcases hb with rfl | rfl | rfl <;> cases o <;> decide +kernel
  · cases o <;> decide +kernel
theorem scans_stm {s : Stm} (h : s.Good) {l : List Nat} {r : List Int} (k : Scans l r) : Scans (s.codes ++ l) (s.syms ++ r) := by
  cases s with
  | lay x i =>
    obtain ⟨hx, h0, h9⟩ := h
    exact scan_word (by rcases hx with rfl | rfl | rfl <;> decide +kernel) (scan_digit i h0 h9 k)
  | deed a b o =>
    obtain ⟨ha, hb⟩ := h
    exact scan_word (by rcases ha with rfl | rfl | rfl <;> decide +kernel) (scan_deed o hb k)
theorem scans_of : ∀ {l : List Stm}, (∀ s ∈ l, s.Good) → Scans (codesOf l) (symsOf l)
  | [], _ => .nil
  | s :: l, h => by
    rw [codesOf_cons, symsOf_cons]
    exact scans_stm (h s (.head _)) (scans_of fun x hx => h x (.tail _ hx))
end Mine
end
section
open PySem PySem.W PyProof.Rows
namespace Mine
/-! the machine over the glued text: a tree's value in its first register -/
noncomputable def nameOf : Tree → Nat → Nat
  | .leaf _, x => x - 32
  | .node _ _ _, x => x
theorem low_up {x : Nat} (h : Letter x) : lowc (x - 32) = x := by rcases h with rfl | rfl | rfl <;> rfl
theorem low_let {x : Nat} (h : Letter x) : lowc x = x := by rcases h with rfl | rfl | rfl <;> rfl
theorem low_name (t : Tree) {x : Nat} (h : Letter x) : lowc (nameOf t x) = x := by
  cases t with
  | leaf _ => exact low_up h
  | node _ _ _ => exact low_let h
theorem let_up {x : Nat} (h : Letter x) : LetC (x - 32) := by rcases h with rfl | rfl | rfl <;> (unfold LetC; decide)
theorem let_let {x : Nat} (h : Letter x) : LetC x := by rcases h with rfl | rfl | rfl <;> (unfold LetC; decide)
noncomputable def Free (tb : List (Nat × Int)) (x : Nat) : Prop := ∀ q ∈ tb, lowc q.1 ≠ x
theorem free_app {tb : List (Nat × Int)} {x c : Nat} {v : Int} (h : Free tb x) (hc : lowc c ≠ x) : Free (tb ++ [(c, v)]) x := by
  intro q hq
  rcases List.mem_append.mp hq with hq | hq
  · exact h q hq
  · rw [List.mem_singleton.mp hq]; exact hc
theorem tdel_free {tb : List (Nat × Int)} {c : Nat} (h : Free tb (lowc c)) : tdel tb c = tb := by
  unfold tdel
  rw [List.filter_eq_self]
  intro q hq
  have := h q hq
  simp [this]
theorem tdel_app (a b : List (Nat × Int)) (c : Nat) : tdel (a ++ b) c = tdel a c ++ tdel b c := by unfold tdel; rw [List.filter_append]
theorem tdel_hit {c d : Nat} {v : Int} (h : lowc d = lowc c) : tdel [(d, v)] c = [] := by unfold tdel; simp [h]
theorem tdel_miss {c d : Nat} {v : Int} (h : lowc d ≠ lowc c) : tdel [(d, v)] c = [(d, v)] := by unfold tdel; simp [h]
theorem find_free {tb : List (Nat × Int)} {c : Nat} (h : Free tb (lowc c)) : tb.find? (fun q => lowc q.1 == lowc c) = none := by
  rw [List.find?_eq_none]
  intro q hq e
  exact h q hq (eq_of_beq e)
theorem find_app (a b : List (Nat × Int)) (c : Nat) (h : Free a (lowc c)) : (a ++ b).find? (fun q => lowc q.1 == lowc c) = b.find? (fun q => lowc q.1 == lowc c) := by
  rw [List.find?_append, find_free h]; rfl
/-- what the two parts leave, in either order, and what the deed makes of it -/
theorem deed_tbl {tb : List (Nat × Int)} {a b ca cb : Nat} {x y z : Int} (fa : Free tb a) (fb : Free tb b) (hca : lowc ca = a) (hcb : lowc cb = b) (ha : lowc a = a) (hb : lowc b = b) (hab : a ≠ b) :
    (tb ++ [(ca, x)] ++ [(cb, y)]).find? (fun q => lowc q.1 == lowc a) = some (ca, x) ∧ (tb ++ [(ca, x)] ++ [(cb, y)]).find? (fun q => lowc q.1 == lowc b) = some (cb, y) ∧
    tdel (tset (tb ++ [(ca, x)] ++ [(cb, y)]) a z) b = tb ++ [(a, z)] := by
  have fa' : Free tb (lowc a) := by rw [ha]; exact fa
  have fb' : Free tb (lowc b) := by rw [hb]; exact fb
  refine ⟨?_, ?_, ?_⟩
  · rw [List.append_assoc, find_app _ _ _ fa']
    simp [hca, ha]
  · rw [List.append_assoc, find_app _ _ _ fb']
    simp [hca, hcb, hb, hab]
  · unfold tset
    simp only [tdel_app]
    rw [tdel_free fa', tdel_hit (c := a) (d := ca) (by rw [hca, ha]), tdel_miss (c := a) (d := cb) (by rw [hcb, ha]; exact Ne.symm hab)]
    rw [tdel_free fb', tdel_hit (c := b) (d := cb) (by rw [hcb, hb]), tdel_miss (c := b) (d := a) (by rw [ha, hb]; exact hab)]
    simp [tdel]
theorem deed_tbl2 {tb : List (Nat × Int)} {a b ca cb : Nat} {x y z : Int} (fa : Free tb a) (fb : Free tb b) (hca : lowc ca = a) (hcb : lowc cb = b) (ha : lowc a = a) (hb : lowc b = b) (hab : a ≠ b) :
    (tb ++ [(cb, y)] ++ [(ca, x)]).find? (fun q => lowc q.1 == lowc a) = some (ca, x) ∧ (tb ++ [(cb, y)] ++ [(ca, x)]).find? (fun q => lowc q.1 == lowc b) = some (cb, y) ∧
    tdel (tset (tb ++ [(cb, y)] ++ [(ca, x)]) a z) b = tb ++ [(a, z)] := by
  have fa' : Free tb (lowc a) := by rw [ha]; exact fa
  have fb' : Free tb (lowc b) := by rw [hb]; exact fb
  refine ⟨?_, ?_, ?_⟩
  · rw [List.append_assoc, find_app _ _ _ fa']
    simp [hca, hcb, ha, Ne.symm hab]
  · rw [List.append_assoc, find_app _ _ _ fb']
    simp [hcb, hb]
  · unfold tset
    simp only [tdel_app]
    rw [tdel_free fa', tdel_hit (c := a) (d := ca) (by rw [hca, ha]), tdel_miss (c := a) (d := cb) (by rw [hcb, ha]; exact Ne.symm hab)]
    rw [tdel_free fb', tdel_hit (c := b) (d := cb) (by rw [hcb, hb]), tdel_miss (c := b) (d := a) (by rw [ha, hb]; exact hab)]
    simp [tdel]
theorem small_of {t : Tree} (h : t.Fine) (hz : t.size ≤ 11) : Small t.value := by
  have := Tree.value_bound h hz
  unfold Small; omega
theorem op_run {tb tb' : List (Nat × Int)} {a b ca cb m k : Nat} {x y d : Int} {o : Op} (la : Letter a) (lb : Letter b) (hl : tb.length ≤ 8) (h1 : tb.find? (fun q => lowc q.1 == lowc a) = some (ca, x)) (h2 : tb.find? (fun q => lowc q.1 == lowc b) = some (cb, y))
    (sx : Small x) (sy : Small y) (so : Small (o.app x y)) (h3 : tdel (tset tb a (o.app x y)) b = tb') (hk : max m tb'.length = k) : Run ⟨tb, m, [], d⟩ (Stm.deed a b o).syms ⟨tb', k, [], o.deed⟩ := by
  have na : a < 128 := by rcases la with rfl | rfl | rfl <;> decide
  have nb : b < 128 := by rcases lb with rfl | rfl | rfl <;> decide
  subst hk h3
  refine .cons (.name a na (by decide)) (.cons (.deed ?_ ?_ ?_) (.cons (.name b nb (by simp)) (.cons (.op (let_let la) (let_let lb) hl h1 h2 sx sy so) .nil)))
  all_goals (cases o <;> decide)
theorem lay_run {tb : List (Nat × Int)} {r m k : Nat} {i d : Int} (lr : Letter r) (h0 : 0 ≤ i) (h9 : i ≤ 9) (hl : tb.length ≤ 8) (hf : Free tb r) (hk : max m (tb.length + 1) = k) : Run ⟨tb, m, [], d⟩ (Stm.lay r i).syms ⟨tb ++ [(r - 32, i)], k, [], 22⟩ := by
  have na : r - 32 < 128 := by rcases lr with rfl | rfl | rfl <;> decide
  have nb : 48 + i.toNat < 128 := by omega
  have e : tset tb (r - 32) i = tb ++ [(r - 32, i)] := by unfold tset; rw [tdel_free (by rw [low_up lr]; exact hf)]
  have e2 : (tb ++ [(r - 32, i)]).length = tb.length + 1 := by simp
  have s := Step.lay (t := tb) (m := m) (let_up lr) hl h0 h9 rfl
  rw [e, e2, hk] at s
  exact .cons (.name (r - 32) na (by decide)) (.cons (.deed (by decide) (by decide) (by decide)) (.cons (.name (48 + i.toNat) nb (by simp)) (.cons s .nil)))
theorem run_compile : ∀ (t : Tree) (ns : List Nat) (tb : List (Nat × Int)) (m : Nat) (d : Int), t.Fine → t.size ≤ 11 → NamesOk t ns → ns.Nodup → (∀ x ∈ ns, Free tb x) → tb.length + ns.length ≤ 8 →
    ∃ d', Run ⟨tb, m, [], d⟩ (symsOf (compile t ns)) ⟨tb ++ [(nameOf t (ns.headD 0), t.value)], max m (tb.length + reg t), [], d'⟩
  | .leaf i, ns, tb, m, d, hf, hz, hn, hd, hfr, hl => by
    obtain ⟨hr, hl3, hx⟩ := hn
    match ns, hr, hx, hfr, hl with
    | x :: u, _, hx, hfr, hl =>
      simp only [List.length_cons] at hl
      refine ⟨22, ?_⟩
      show Run _ (symsOf [.lay x i]) _
      rw [symsOf_cons, show symsOf [] = [] from rfl, List.append_nil]
      exact lay_run (hx x (.head _)) hf.1 hf.2 (by omega) (hfr x (.head _)) rfl
  | .node o l r, ns, tb, m, d, hf, hz, hn, hd, hfr, hl => by
    obtain ⟨a, b, u, rfl, k1, k2, la, lb⟩ := names_split hn
    have hsz : l.size ≤ 11 ∧ r.size ≤ 11 := by simp only [Tree.size] at hz; omega
    have hab : a ≠ b := fun e => by subst e; simp at hd
    have hau : a ∉ u := fun e => by simp only [List.nodup_cons, List.mem_cons] at hd; exact hd.1 (.inr e)
    have hbu : b ∉ u ∧ u.Nodup := by simp only [List.nodup_cons] at hd; exact hd.2
    have fa := hfr a (.head _)
    have fb := hfr b (.tail _ (.head _))
    have fu : ∀ x ∈ u, Free tb x := fun x hx => hfr x (.tail _ (.tail _ hx))
    simp only [List.length_cons] at hl
    have so := small_of hf hz
    unfold compile
    simp only [List.headD_cons, List.tail_cons]
    by_cases hc : reg r ≤ reg l
    · rw [if_pos hc, symsOf_append, symsOf_append, symsOf_cons, show symsOf [] = [] from rfl, List.append_nil]
      obtain ⟨d1, r1⟩ := run_compile l (a :: b :: u) tb m d hf.1 hsz.1 (k1 hc).1 hd hfr (by simp only [List.length_cons]; omega)
      obtain ⟨d2, r2⟩ := run_compile r (b :: u) (tb ++ [(nameOf l a, l.value)]) (max m (tb.length + reg l)) d1 hf.2 hsz.2 (k1 hc).2 (List.nodup_cons.mpr hbu)
        (fun x hx => by
          rcases List.mem_cons.mp hx with rfl | hx
          · exact free_app fb (by rw [low_name l la]; exact hab)
          · exact free_app (fu x hx) (by rw [low_name l la]; rintro rfl; exact hau hx))
        (by simp only [List.length_cons, List.length_append, List.length_nil]; omega)
      simp only [List.headD_cons] at r1 r2
      obtain ⟨h1, h2, h3⟩ := deed_tbl (z := o.app l.value r.value) (x := l.value) (y := r.value) fa fb (low_name l la) (low_name r lb) (low_let la) (low_let lb) hab
      refine ⟨o.deed, (r1.append r2).append (op_run la lb ?_ h1 h2 (small_of hf.1 hsz.1) (small_of hf.2 hsz.2) so h3 ?_)⟩
      · simp only [List.length_append, List.length_cons, List.length_nil]; omega
      · simp only [List.length_append, List.length_cons, List.length_nil]
        have := reg_pos l
        have := reg_pos r
        simp only [reg]
        split <;> omega
    · rw [if_neg hc, symsOf_append, symsOf_append, symsOf_cons, show symsOf [] = [] from rfl, List.append_nil]
      have hd2 : (b :: a :: u).Nodup := by
        rw [List.nodup_cons, List.nodup_cons, List.mem_cons]
        exact ⟨fun h => h.elim (fun e => hab e.symm) hbu.1, hau, hbu.2⟩
      have hfr2 : ∀ x ∈ b :: a :: u, Free tb x := fun x hx => by
        rcases List.mem_cons.mp hx with rfl | hx
        · exact fb
        · rcases List.mem_cons.mp hx with rfl | hx
          · exact fa
          · exact fu x hx
      obtain ⟨d1, r1⟩ := run_compile r (b :: a :: u) tb m d hf.2 hsz.2 (k2 hc).1 hd2 hfr2 (by simp only [List.length_cons]; omega)
      obtain ⟨d2, r2⟩ := run_compile l (a :: u) (tb ++ [(nameOf r b, r.value)]) (max m (tb.length + reg r)) d1 hf.1 hsz.1 (k2 hc).2 (List.nodup_cons.mpr ⟨hau, hbu.2⟩)
        (fun x hx => by
          rcases List.mem_cons.mp hx with rfl | hx
          · exact free_app fa (by rw [low_name r lb]; exact Ne.symm hab)
          · exact free_app (fu x hx) (by rw [low_name r lb]; rintro rfl; exact hbu.1 hx))
        (by simp only [List.length_cons, List.length_append, List.length_nil]; omega)
      simp only [List.headD_cons] at r1 r2
      obtain ⟨h1, h2, h3⟩ := deed_tbl2 (z := o.app l.value r.value) (x := l.value) (y := r.value) fa fb (low_name l la) (low_name r lb) (low_let la) (low_let lb) hab
      refine ⟨o.deed, (r1.append r2).append (op_run la lb ?_ h1 h2 (small_of hf.1 hsz.1) (small_of hf.2 hsz.2) so h3 ?_)⟩
      · simp only [List.length_append, List.length_cons, List.length_nil]; omega
      · simp only [List.length_append, List.length_cons, List.length_nil]
        have := reg_pos l
        have := reg_pos r
        simp only [reg]
        split <;> omega
theorem reg_leaves : ∀ t : Tree, 2 ^ (reg t - 1) ≤ t.leaves
  | .leaf _ => Nat.le_refl _
  | .node o l r => by
    have h1 := reg_leaves l
    have h2 := reg_leaves r
    have p1 := reg_pos l
    have p2 := reg_pos r
    unfold reg Tree.leaves
    split
    · rename_i e
      rw [← e] at h2
      have : 2 ^ (reg l + 1 - 1) = 2 * 2 ^ (reg l - 1) := by
        rw [← Nat.pow_succ']
        congr 1
        omega
      omega
    · rcases Nat.le_total (reg l) (reg r) with h | h
      · rw [Nat.max_eq_right h]; omega
      · rw [Nat.max_eq_left h]; omega
theorem reg_six {t : Tree} (h : t.leaves = 6) : reg t ≤ 3 := by
  have h1 := reg_leaves t
  rw [h] at h1
  rcases Nat.lt_or_ge (reg t) 4 with h2 | h2
  · omega
  · have := Nat.pow_le_pow_right (n := 2) (by decide) (show 3 ≤ reg t - 1 by omega)
    omega
/-- the law's own program: one header, a, with the value; as many at once as the tree's number -/
theorem run_whole {t : Tree} (hf : t.Fine) (hv : t.leaves = 6) : NamesOk t [97, 98, 99] ∧ ∃ d', Run ⟨[], 0, [], 0⟩ (symsOf (compile t [97, 98, 99])) ⟨[(97, t.value)], reg t, [], d'⟩ := by
  have hz := t.size_leaves
  have hr := reg_six hv
  have hn : NamesOk t [97, 98, 99] := ⟨hr, Nat.le_refl _, fun x hx => by simpa [Letter] using hx⟩
  refine ⟨hn, ?_⟩
  obtain ⟨d', r⟩ := run_compile t [97, 98, 99] [] 0 0 hf (by omega) hn (by decide) (fun _ _ q hq => by cases hq) (by decide)
  refine ⟨d', ?_⟩
  have e : nameOf t ([97, 98, 99].headD 0) = 97 := by
    cases t with
    | leaf _ => simp [Tree.leaves] at hv
    | node _ _ _ => rfl
  rw [e] at r
  simpa using r
end Mine
end
section
open PySem PySem.W PyProof.Rows
namespace Mine
/-! the search over all orders, shape by shape -/
noncomputable def Sh.leaves : Sh → Nat
  | .leaf => 1
  | .node l r => l.leaves + r.leaves
noncomputable def Sh.reg : Sh → Nat
  | .leaf => 1
  | .node l r => if l.reg = r.reg then l.reg + 1 else max l.reg r.reg
theorem Tree.sh_leaves : ∀ t : Tree, t.sh.leaves = t.leaves
  | .leaf _ => rfl
  | .node _ l r => by simp only [Tree.sh, Sh.leaves, Tree.leaves, l.sh_leaves, r.sh_leaves]
theorem Tree.sh_reg : ∀ t : Tree, t.sh.reg = reg t
  | .leaf _ => rfl
  | .node _ l r => by simp only [Tree.sh, Sh.reg, reg, l.sh_reg, r.sh_reg]
theorem Sh.leaves_pos : ∀ s : Sh, 1 ≤ s.leaves
  | .leaf => Nat.le_refl _
  | .node l r => by have := l.leaves_pos; have := r.leaves_pos; simp only [Sh.leaves]; omega
noncomputable def mixes (a b : List Sh) : List Sh := a.flatMap fun l => b.map fun r => .node l r
noncomputable def S1 : List Sh := [.leaf]
noncomputable def S2 : List Sh := mixes S1 S1
noncomputable def S3 : List Sh := mixes S1 S2 ++ mixes S2 S1
noncomputable def S4 : List Sh := mixes S1 S3 ++ (mixes S2 S2 ++ mixes S3 S1)
noncomputable def S5 : List Sh := mixes S1 S4 ++ (mixes S2 S3 ++ (mixes S3 S2 ++ mixes S4 S1))
noncomputable def S6 : List Sh := mixes S1 S5 ++ (mixes S2 S4 ++ (mixes S3 S3 ++ (mixes S4 S2 ++ mixes S5 S1)))
theorem mem_mixes {a b : List Sh} {l r : Sh} (hl : l ∈ a) (hr : r ∈ b) : Sh.node l r ∈ mixes a b :=
  List.mem_flatMap.mpr ⟨l, hl, List.mem_map.mpr ⟨r, hr, rfl⟩⟩
theorem in1 : ∀ s : Sh, s.leaves = 1 → s ∈ S1
  | .leaf, _ => .head _
  | .node l r, h => by have := l.leaves_pos; have := r.leaves_pos; simp only [Sh.leaves] at h; omega
theorem in2 : ∀ s : Sh, s.leaves = 2 → s ∈ S2
  | .leaf, h => by simp [Sh.leaves] at h
  | .node l r, h => by
    have := l.leaves_pos; have := r.leaves_pos; simp only [Sh.leaves] at h
    exact mem_mixes (in1 l (by omega)) (in1 r (by omega))
theorem in3 : ∀ s : Sh, s.leaves = 3 → s ∈ S3
  | .leaf, h => by simp [Sh.leaves] at h
  | .node l r, h => by
    have := l.leaves_pos; have := r.leaves_pos; simp only [Sh.leaves] at h
    have e : (l.leaves = 1 ∧ r.leaves = 2) ∨ (l.leaves = 2 ∧ r.leaves = 1) := by omega
    rcases e with ⟨e1, e2⟩ | ⟨e1, e2⟩
    · exact List.mem_append_left _ (mem_mixes (in1 l e1) (in2 r e2))
    · exact List.mem_append_right _ (mem_mixes (in2 l e1) (in1 r e2))
theorem in4 : ∀ s : Sh, s.leaves = 4 → s ∈ S4
  | .leaf, h => by simp [Sh.leaves] at h
  | .node l r, h => by
    have := l.leaves_pos; have := r.leaves_pos; simp only [Sh.leaves] at h
    have e : (l.leaves = 1 ∧ r.leaves = 3) ∨ (l.leaves = 2 ∧ r.leaves = 2) ∨ (l.leaves = 3 ∧ r.leaves = 1) := by omega
    rcases e with ⟨e1, e2⟩ | ⟨e1, e2⟩ | ⟨e1, e2⟩
    · exact List.mem_append_left _ (mem_mixes (in1 l e1) (in3 r e2))
    · exact List.mem_append_right _ (List.mem_append_left _ (mem_mixes (in2 l e1) (in2 r e2)))
    · exact List.mem_append_right _ (List.mem_append_right _ (mem_mixes (in3 l e1) (in1 r e2)))
theorem in5 : ∀ s : Sh, s.leaves = 5 → s ∈ S5
  | .leaf, h => by simp [Sh.leaves] at h
  | .node l r, h => by
    have := l.leaves_pos; have := r.leaves_pos; simp only [Sh.leaves] at h
    have e : (l.leaves = 1 ∧ r.leaves = 4) ∨ (l.leaves = 2 ∧ r.leaves = 3) ∨ (l.leaves = 3 ∧ r.leaves = 2) ∨ (l.leaves = 4 ∧ r.leaves = 1) := by omega
    rcases e with ⟨e1, e2⟩ | ⟨e1, e2⟩ | ⟨e1, e2⟩ | ⟨e1, e2⟩
    · exact List.mem_append_left _ (mem_mixes (in1 l e1) (in4 r e2))
    · exact List.mem_append_right _ (List.mem_append_left _ (mem_mixes (in2 l e1) (in3 r e2)))
    · exact List.mem_append_right _ (List.mem_append_right _ (List.mem_append_left _ (mem_mixes (in3 l e1) (in2 r e2))))
    · exact List.mem_append_right _ (List.mem_append_right _ (List.mem_append_right _ (mem_mixes (in4 l e1) (in1 r e2))))
theorem in6 : ∀ s : Sh, s.leaves = 6 → s ∈ S6
  | .leaf, h => by simp [Sh.leaves] at h
  | .node l r, h => by
    have := l.leaves_pos; have := r.leaves_pos; simp only [Sh.leaves] at h
    have e : (l.leaves = 1 ∧ r.leaves = 5) ∨ (l.leaves = 2 ∧ r.leaves = 4) ∨ (l.leaves = 3 ∧ r.leaves = 3) ∨ (l.leaves = 4 ∧ r.leaves = 2) ∨ (l.leaves = 5 ∧ r.leaves = 1) := by omega
    rcases e with ⟨e1, e2⟩ | ⟨e1, e2⟩ | ⟨e1, e2⟩ | ⟨e1, e2⟩ | ⟨e1, e2⟩
    · exact List.mem_append_left _ (mem_mixes (in1 l e1) (in5 r e2))
    · exact List.mem_append_right _ (List.mem_append_left _ (mem_mixes (in2 l e1) (in4 r e2)))
    · exact List.mem_append_right _ (List.mem_append_right _ (List.mem_append_left _ (mem_mixes (in3 l e1) (in3 r e2))))
    · exact List.mem_append_right _ (List.mem_append_right _ (List.mem_append_right _ (List.mem_append_left _ (mem_mixes (in4 l e1) (in2 r e2)))))
    · exact List.mem_append_right _ (List.mem_append_right _ (List.mem_append_right _ (List.mem_append_right _ (mem_mixes (in5 l e1) (in1 r e2)))))
/-- the search over a shape's orders ends by this number of turns, and with the shape's number -/
noncomputable def okS (s : Sh) : Bool := match runN 2047 (pl s 0) 100 start with
  | some (_, r) => decide (r = (s.reg : Nat))
  | none => false
theorem okS_runs {s : Sh} (h : okS s = true) : ∃ k r, k ≤ 100 ∧ RunsN 2047 (pl s 0) k start r ∧ r = (s.reg : Nat) := by
  unfold okS at h
  cases e : runN 2047 (pl s 0) 100 start with
  | none => rw [e] at h; cases h
  | some q =>
    rw [e] at h
    obtain ⟨j, r⟩ := q
    obtain ⟨h1, h2⟩ := runs_of e
    exact ⟨j, r, h2, h1, of_decide_eq_true h⟩
theorem all1 : (mixes S1 S5).all okS = true := by decide +kernel
theorem all2 : (mixes S2 S4).all okS = true := by decide +kernel
theorem all3 : (mixes S3 S3).all okS = true := by decide +kernel
theorem all4 : (mixes S4 S2).all okS = true := by decide +kernel
theorem all5 : (mixes S5 S1).all okS = true := by decide +kernel
theorem all6 : S6.all okS = true := by
  unfold S6
  rw [List.all_append, List.all_append, List.all_append, List.all_append, all1, all2, all3, all4, all5]; rfl
theorem least_whole {t : Tree} (h : t.leaves = 6) : t.size ≤ 11 ∧ ∃ k r, k ≤ 100 ∧ RunsN (2 * 2 ^ (t.size - 1) - 1) (pl t.sh 0) k start r ∧ r = (reg t : Nat) := by
  have hz : t.size = 11 := by have := t.size_leaves; omega
  have hs := in6 t.sh (by rw [t.sh_leaves, h])
  obtain ⟨k, r, h1, h2, h3⟩ := okS_runs ((List.all_eq_true.mp all6) _ hs)
  rw [t.sh_reg] at h3
  refine ⟨by omega, k, r, h1, ?_, h3⟩
  rw [hz]
  exact h2
end Mine
end
section
open PySem PySem.W PyProof.Rows
namespace Mine
local macro_rules | `(tactic| k_mem) => `(tactic| first | exact List.mem_cons_self .. | (refine List.mem_cons_of_mem _ ?_; k_mem))
theorem lit_a : tx [97] = Str.ofString "a" := by decide +kernel
theorem vtext_ok {v : Int} (h : Small v) : PyData.strOk (vtext v) = true := by
  have hk := vtext_head h.1 h.2
  unfold PyData.strOk
  rw [Array.all_eq_true]
  intro i hi
  have := hk.1 i hi
  simp only [Array.getD, dif_pos hi] at this
  simp only [decide_eq_true_eq]
  first | omega | (simp at this; omega)
theorem law_eq {prog : Program} {w : World} {A : Around} {E : Value → Shared → Prop} {s : Shared} {h₀ : Heap} {L ra J a1 D l b1 : Addr} {news : List (Addr × Obj)} {n : Int} {x y : Str} {t5 t1 t2 u5 u1 u2 : Tok} {k1 k2 k3 k4 k5 k6 : Nat} {Q : Value → Shared → Prop} (N : News h₀ L s.heap news)
    (m1 : (ra, ({ cls := .type "tuple", data := .seq #[.ref J, .int n t5] k1 } : Obj)) ∈ news) (m2 : (J, W.listOf #[.ref a1] k2) ∈ news) (m3 : (a1, ({ cls := .type "tuple", data := .seq #[.str x t1, .str y t2] k3 } : Obj)) ∈ news)
    (m4 : (D, ({ cls := .type "tuple", data := .seq #[.ref l, .int n u5] k4 } : Obj)) ∈ news) (m5 : (l, W.listOf #[.ref b1] k5) ∈ news) (m6 : (b1, ({ cls := .type "tuple", data := .seq #[.str x u1, .str y u2] k6 } : Obj)) ∈ news)
    (sx : PyData.strOk x = true) (sy : PyData.strOk y = true) (hu : A.units + 64 < cLine) (h : Q (.bool true) s) : wpAny (model prog w) A (compareOp .Eq (.ref ra) (.ref D)) Q E s :=
  eq_dataH (reads_tuple_at (N.get m1) rfl rfl (.cons (reads_list_at (N.get m2) rfl rfl (.cons (reads_tuple_at (N.get m3) rfl rfl (.cons (.str _ _) (.cons (.str _ _) .nil))) .nil)) (.cons (.int _ _) .nil)))
    (reads_tuple_at (N.get m4) rfl rfl (.cons (reads_list_at (N.get m5) rfl rfl (.cons (reads_tuple_at (N.get m6) rfl rfl (.cons (.str _ _) (.cons (.str _ _) .nil))) .nil)) (.cons (.int _ _) .nil)))
    (by simp [SeqAt.shaped, PyData.canLay0, PyData.canLayAll0, PyData.depth, PyData.depthAll, sx, sy]) (by simp [SeqAt.shaped, PyData.canLay0, PyData.canLayAll0, PyData.depth, PyData.depthAll, sx, sy]) hu (by
      have e : PyData.eqv (PyData.tuple [.list [.tuple [.str x, .str y]], .int n]) (PyData.tuple [.list [.tuple [.str x, .str y]], .int n]) = true := by simp [PyData.eqv, PyData.eqvAll]
      rw [e]; exact h)
local macro_rules | `(tactic| walk_at "compareOp Eq ref ref") => `(tactic| refine law_eq (by k_asm) (by k_mem) (by k_mem) (by k_mem) (by k_mem) (by k_mem) (by k_mem) (by decide +kernel) (by assumption) (by ke_room) ?_)
local macro_rules | `(tactic| walk_at "call ref") => `(tactic| refine hold ?_)
local macro_rules | `(tactic| walk_at "call type:str") => `(tactic| refine r_str (by assumption) ?_)
local macro_rules | `(tactic| k_qdec) => `(tactic| decide +kernel)
theorem said1 : PySem.Challenge.rw_we0032_01.row.wellSaid = true := by
  delta OpenRow.wellSaid OpenRow.partSaid looksOpen
  rw [PySem.W.Fast.te11788848310118352699, PySem.W.Fast.te9807087744658564304, PySem.W.Fast.te12862048085361865435, PySem.W.Fast.te8377067652309620493, PySem.W.Fast.te18344453789297297638, PySem.W.Fast.te8326940854005059898, PySem.W.Fast.te5923862056798008813, PySem.W.Fast.te17119622794617984870, PySem.W.Fast.te17868728402115742887, PySem.W.Fast.te3471404346716756564]
  kernel_rfl
theorem said0 : PySem.Challenge.rw_we0032_01.wellSaid = true := by
  delta OpenLaw.wellSaid
  rw [said1, PySem.W.Fast.te8326940854005059898, PySem.W.Fast.te17119622794617984870, PySem.W.Fast.te8179353310426384613, PySem.W.Fast.te10501279942588096481, PySem.W.Fast.te9558739934217749035, PySem.W.Fast.te16286561074155671207, PySem.W.Fast.te6984425678791042302, PySem.W.Fast.te482687673346738481, PySem.W.Fast.te797321630700447069, PySem.W.Fast.te12879404354523853263, PySem.W.Fast.te3471404346716756564]
  kernel_rfl
theorem lw : PySem.Challenge.rw_we0032_01.Holds := by
  w_top off
  refine holds_law said0 fun said => ?_
  refine holds_open (q := q8) (loose := lo8) (Xt := xt8) (XP := XL q8 []) (Yf := Hook.obs H8) (Ya := Hook.val H8) (YP := Hook.says H8) (N := 6094) hlT (Hook.of H8) (Hook.keeps H8) (fun s e => xl_of s (Bool.and_eq_true_iff.mp e).1) XL.keeps (by rfl) (by rfl) (by rfl) (fun s e => recFacts_of (Bool.and_eq_true_iff.mp e).2) (by rfl) (by assumption) (by decide +kernel) ⟨rfl, rfl, rfl, rfl, rfl, by decide +kernel⟩ ?hw ?hc
  case hw => w_witness2
  case hc =>
    w_top off
    k_go0
    all_goals try k_fold
    k_steps
    unfold Hold
    k_dflt (refine nums_spec (by k_asm) (by k_asm) (by k_asm) (by k_asm) (by k_asm) (by first | exact rfl | assumption) (by k_asm) (by k_asm) (by omega) (by ktr_room) (by ktr_units) ?_)
    intro J us ms n1 h1 tk1 F1 N1 hus hms hzs
    k_steps
    unfold Hold
    k_dflt (refine tree_spec (by k_asm) (by k_asm) (by k_asm) (by k_asm) (by k_asm) (by first | exact rfl | assumption) (.head _) hus hms hzs (by ktr_room) (by ktr_units) ?_)
    intro r t nw h2 tk2 F2 N2 hsub hT hf hl
    have hz := t.size_leaves
    have hz11 : t.size = 11 := by omega
    have hzle : t.size ≤ 11 := by omega
    obtain ⟨hn, d', hrun⟩ := run_whole hf hl
    have hcb := codes_bound hzle [97, 98, 99]
    have hsl := syms_le (compile t [97, 98, 99])
    rw [compile_length, hz11] at hsl
    k_steps
    unfold Hold
    k_dflt (refine prog_tells (t, [97, 98, 99]) _ _ _ _ _ _ _ _ _ _ _ _ _ _ _ _ _ _ _ (by k_asm) (by k_asm) (by k_asm) (by k_asm) (by k_asm) (by first | exact rfl | assumption) (by rw [lit_abc]; exact PRel.mk hT) ⟨hf, hzle, hn⟩ (by show _ + (t.size + 40) < _; rw [hz11]; ktr_room) (by show _ + 8 * (t.size + 40) < _; rw [hz11]; ktr_units) ?_)
    rintro _ _ h3 tk3 F3 N3 _ rfl ⟨tp, rfl⟩
    rw [List.append_nil] at N3
    dsimp only at F3 N3 ⊢
    k_steps
    unfold Hold
    k_dflt (refine sym_tells (codesOf (compile t [97, 98, 99]), symsOf (compile t [97, 98, 99])) _ _ _ _ _ _ _ _ _ _ _ _ _ _ _ _ _ _ _ (by k_asm) (by k_asm) (by k_asm) (by k_asm) (by k_asm) (by first | exact rfl | assumption) (by exact SymRel.mk) ⟨by show (codesOf _).length ≤ 100; omega, scans_of (compile_good t _ hf hn)⟩ (by show _ + 20 < _; ktr_room) (by show _ + 8 * 20 < _; ktr_units) ?_)
    rintro _ tl4 h4 tk4 F4 N4 _ _ ⟨la, xs, nn, rfl, hla, hxs⟩
    have hT4 := hT.mono (fun p hp => List.mem_append_left tl4 hp)
    generalize nw ++ tl4 = nw4 at N4 hla hT4
    dsimp only at F4 N4 hxs ⊢
    k_steps
    unfold Hold
    k_dflt (refine run_tells (symsOf (compile t [97, 98, 99]), ⟨[(97, t.value)], reg t, [], d'⟩) _ _ _ _ _ _ _ _ _ _ _ _ _ _ _ _ _ _ _ (by k_asm) (by k_asm) (by k_asm) (by k_asm) (by k_asm) (by first | exact rfl | assumption) ⟨la, xs, nn, rfl, hla, hxs⟩ ⟨by show (symsOf _).length ≤ 200; omega, hrun⟩ (by show _ + 100 < _; ktr_room) (by show _ + 8 * 100 < _; ktr_units) ?_)
    rintro _ tl5 h5 tk5 F5 N5 _ _ ⟨ra, J5, its, n5, t5, k5, rfl, hra, hJ5, hin⟩
    have hT5 := hT4.mono (fun p hp => List.mem_append_left tl5 hp)
    generalize nw4 ++ tl5 = nw5 at N5 hra hJ5 hin hT5
    dsimp only [texts, List.map] at F5 N5 hra hin ⊢
    cases hin with
    | @cons a1 _ x1 y1 t1 t2 n7 _ _ ha1 hx1 hc1 hnil =>
    cases hnil
    rw [lit_a] at hx1
    subst hx1
    have N6 := newsOf N5 (l' := (ra, _) :: (J5, _) :: (a1, _) :: nw5) (List.forall_mem_cons.mpr ⟨hra, List.forall_mem_cons.mpr ⟨hJ5, List.forall_mem_cons.mpr ⟨ha1, lAll⟩⟩⟩)
    clear N5
    have hT6 := hT5.mono (news' := (ra, { cls := Value.type "tuple", data := Data.seq #[Value.ref J5, Value.int ((reg t : Nat) : Int) t5] k5 }) :: (J5, W.listOf (List.toArray [Value.ref a1]) n5) :: (a1, { cls := Value.type "tuple", data := Data.seq #[Value.str (Str.ofString "a") t1, Value.str (vtext t.value) t2] n7 }) :: nw5) (lSkip (lSkip (lSkip lAll)))
    have hsm := small_of hf hzle
    have hok := vtext_ok hsm
    k_steps
    unfold Hold
    k_dflt (refine value_tells t _ _ _ _ _ _ _ _ _ _ _ _ _ _ _ _ _ _ _ (by k_asm) (by k_asm) (by k_asm) (by k_asm) (by k_asm) (by first | exact rfl | assumption) ⟨_, rfl, hT6⟩ ⟨hf, hzle⟩ (by show _ + t.size < _; rw [hz11]; ktr_room) (by show _ + 8 * t.size < _; rw [hz11]; ktr_units) ?_)
    rintro _ _ h7 tk7 F7 N7 _ rfl ⟨tv, rfl⟩
    rw [List.append_nil] at N7
    dsimp only at F7 N7 ⊢
    k_steps
    unfold Hold
    (rename News _ _ _ _ => hN)
    k_dflt (refine least_tells t _ _ _ _ _ _ _ _ _ _ _ _ _ _ _ _ _ _ _ (by k_asm) (by k_asm) (by k_asm) hN (by k_asm) (by first | exact rfl | assumption) ⟨_, rfl, hT6.mono (lSkip (lSkip lAll))⟩ (least_whole hl) (by show _ + (t.size + 50) < _; rw [hz11]; ktr_room) (by show _ + 8 * (t.size + 50) < _; rw [hz11]; ktr_units) ?_)
    rintro _ _ h8 tk8 F8 N8 _ rfl ⟨tl, rfl⟩
    rw [List.append_nil] at N8
    dsimp only at F8 N8 ⊢
    k_steps
end Mine
end
set_option maxRecDepth 100000 in
set_option maxHeartbeats 8000000 in
theorem PySem.Challenge.cw_we0032_01_holds : PySem.Challenge.rw_we0032_01.Holds := by
  exact Mine.lw

