import PyProof.Rows.All
import Wide.All
import OpenK.AllK
import Wide.FinOn
import PySem.Challenge.RW_yi0044_01
open PySem PySem.W PyProof.Rows
set_option Elab.async false
set_option maxRecDepth 100000
set_option maxHeartbeats 8000000
namespace Mine
section
def growT : List Obj → Nat → BT → BT
  | [], _, t => t
  | o :: r, i, t => growT r (i + 1) (t.ins i o)
noncomputable def bootT (P : Params) : BT := growT (boot_heap P).objs.toList 0 .nil
theorem bootT_abs (P : Params) : absHeap (bootT P) (boot_heap P).objs.size (boot_heap P).life = boot_heap P := by kernel_rfl
def topRunG (ok : Thread → Bool) (st : SharedT → Thread → Option (SharedT × Thread)) : Nat → SharedT → Thread → Option SharedT
  | 0, _, _ => none
  | n + 1, s, t => match through t with
    | true => some s
    | false => match ok t with
      | false => none
      | true => match st s t with
        | some (s', t') => topRunG ok st n s' t'
        | none => none
theorem topRunG_spec {tb : String → Option Builtin} {p : Program} {w : World} {n₀ : Nat} {ann : Option Value} : ∀ {n : Nat} {s r : SharedT} {t : Thread},
    topRunG (stepOk n₀ ann) (stepT (denote tb) p w) n s t = some r → topRun tb p w n₀ ann n s.abs t = some r.abs
  | 0, _, _, _, h => by cases h
  | n + 1, s, r, t, h => by
    unfold topRunG at h
    unfold topRun
    cases h1 : through t with
    | true => rw [h1] at h; cases h; rfl
    | false =>
      rw [h1] at h
      cases h2 : stepOk n₀ ann t with
      | false => rw [h2] at h; cases h
      | true =>
        rw [h2] at h
        cases h3 : stepT (denote tb) p w s t with
        | none => rw [h3] at h; cases h
        | some x => obtain ⟨s₂, t₂⟩ := x; rw [h3] at h; rw [stepT_spec h3]; exact topRunG_spec h
theorem of_boot {p q : Program} {loose : List Str} {Xt : Shared → Bool} {α : Type} {Yf : Shared → α} {Ya : World → α} {N n₀ : Nat} {ann : Option Value}
    (open_ : ∀ w : World, (fencedOpening treeTable p w N).map (fun s => (s.heap, s.gens, s.drawn, s.toks)) = some (boot_heap w.params, Array.mk [], boot_drawn, boot_toks))
    (size : ∀ P : Params, ((boot_heap P).isNs mainGlobals, (boot_heap P).objs.size, (boot_heap P).nsMap mainGlobals "__annotations__") = (true, n₀, ann))
    (run1 : ∀ (w : World) (os : OsState), (topRunG (stepOk n₀ ann) (stepT (denote treeTable) p w) N ⟨bootT w.params, n₀, (boot_heap w.params).life, Array.mk [], boot_drawn, boot_toks, os⟩ (topStub p)).map
      (fun s => staticsOk (importedModules p.main.body) (boot_heap w.params) s.abs.heap && namesBound p s.abs.heap && gensDone s.abs && laidKept (boot_heap w.params) s.abs.heap) = some true)
    (run2 : ∀ (w : World) (os : OsState), (topRunG (stepOk n₀ ann) (stepT (denote treeTable) p w) N ⟨bootT w.params, n₀, (boot_heap w.params).life, Array.mk [], boot_drawn, boot_toks, os⟩ (topStub p)).map
      (fun s => openSeen q loose (importedModules p.main.body) Xt true s.abs) = some (openGood q loose))
    (run3 : ∀ (w : World) (os : OsState), (topRunG (stepOk n₀ ann) (stepT (denote treeTable) p w) N ⟨bootT w.params, n₀, (boot_heap w.params).life, Array.mk [], boot_drawn, boot_toks, os⟩ (topStub p)).map
      (fun s => Yf s.abs) = some (Ya w)) :
    LeftO p q loose Xt Yf Ya N := fun w => by
  obtain ⟨⟨h, gs, d, k, os⟩, e, e'⟩ := Option.map_eq_some_iff.mp (open_ w)
  obtain ⟨rfl, rfl, rfl, rfl⟩ : h = boot_heap w.params ∧ gs = Array.mk [] ∧ d = boot_drawn ∧ k = boot_toks := by simpa using e'
  obtain ⟨z1, z2, z3⟩ : _ ∧ _ ∧ _ := by simpa only [Prod.mk.injEq] using size w.params
  obtain ⟨r, e1, l1⟩ := Option.map_eq_some_iff.mp (run1 w os)
  obtain ⟨r2, e2, l2⟩ := Option.map_eq_some_iff.mp (run2 w os)
  obtain ⟨r3, e3, l3⟩ := Option.map_eq_some_iff.mp (run3 w os)
  obtain rfl : r = r2 := Option.some.inj (e1.symm.trans e2)
  obtain rfl : r = r3 := Option.some.inj (e1.symm.trans e3)
  have t := topRunG_spec e1
  have ab : (SharedT.mk (bootT w.params) n₀ (boot_heap w.params).life (Array.mk []) boot_drawn boot_toks os).abs = ⟨boot_heap w.params, Array.mk [], boot_drawn, boot_toks, os⟩ := by
    unfold SharedT.abs
    dsimp only
    rw [← z2, bootT_abs]
  rw [ab] at t
  have f : topFrom treeTable p w N ⟨boot_heap w.params, Array.mk [], boot_drawn, boot_toks, os⟩ = some r.abs := by
    unfold topFrom
    dsimp only
    rw [z1, z2, z3, t]
    show (match staticsOk (importedModules p.main.body) (boot_heap w.params) r.abs.heap && namesBound p r.abs.heap && gensDone r.abs && laidKept (boot_heap w.params) r.abs.heap with | true => _ | false => _) = _
    rw [l1]
  unfold openEnds
  rw [e]
  show (topFrom treeTable p w N _).map _ = _
  rw [f]
  exact congrArg some (Prod.ext l2 l3)
theorem opened : ∀ w : World, (fencedOpening treeTable PySem.Challenge.rw_yi0044_01.row.prog w 6274).map (fun s => (s.heap, s.gens, s.drawn, s.toks)) = some (boot_heap w.params, Array.mk [], boot_drawn, boot_toks) :=
  boot_open (by rfl) (by rfl) (fun s => by rfl)
theorem sized : ∀ P : Params, ((boot_heap P).isNs mainGlobals, (boot_heap P).objs.size, (boot_heap P).nsMap mainGlobals "__annotations__") = (true, 11, some (.ref 6)) := fun P => by kernel_rfl
def viewBody : List Stmt → List Stmt
  | [a, _, b, c, _, d, e, f, _, g, h, i, j] => [a, b, c, d, e, f, g, h, i, j]
  | _ => []
def hdView : Program := { PySem.Challenge.rw_yi0044_01.row.toRowW.prog with main := { PySem.Challenge.rw_yi0044_01.row.toRowW.prog.main with body := viewBody PySem.Challenge.rw_yi0044_01.row.toRowW.prog.main.body } }
theorem slow_of {p : Program} {w : World} {n₀ : Nat} {ann : Option Value} {N : Nat} {s : SharedT} {t : Thread} {α : Type} {f : SharedT → α} {r : Option α}
    (h : (topRunG (PySem.W.Fast.tw6613529449190102663 n₀ ann) (PySem.W.Fast.tw10156331382660048174 (PySem.W.Fast.tw11892475500146522536 PySem.W.Fast.tw14364793385576792824) p w) N s t).map f = r) :
    (topRunG (stepOk n₀ ann) (stepT (denote treeTable) p w) N s t).map f = r := by
  rw [PySem.W.Fast.te6613529449190102663, PySem.W.Fast.te10156331382660048174, PySem.W.Fast.te11892475500146522536, PySem.W.Fast.te14364793385576792824]
  exact h
theorem run_checks : ∀ (w : World) (os : OsState), (topRunG (stepOk 11 (some (.ref 6))) (stepT (denote treeTable) PySem.Challenge.rw_yi0044_01.row.prog w) 6274 ⟨bootT w.params, 11, (boot_heap w.params).life, Array.mk [], boot_drawn, boot_toks, os⟩ (topStub PySem.Challenge.rw_yi0044_01.row.prog)).map
    (fun s => staticsOk (importedModules PySem.Challenge.rw_yi0044_01.row.prog.main.body) (boot_heap w.params) s.abs.heap && namesBound PySem.Challenge.rw_yi0044_01.row.prog s.abs.heap && gensDone s.abs && laidKept (boot_heap w.params) s.abs.heap) = some true := by
  intro w os
  show (topRunG _ (stepT _ PySem.Challenge.pw_yi0044_01 w) _ _ (topStub PySem.Challenge.pw_yi0044_01)).map _ = _
  refine slow_of ?_
  kernel_rfl
theorem run_seen : ∀ (w : World) (os : OsState), (topRunG (stepOk 11 (some (.ref 6))) (stepT (denote treeTable) PySem.Challenge.rw_yi0044_01.row.prog w) 6274 ⟨bootT w.params, 11, (boot_heap w.params).life, Array.mk [], boot_drawn, boot_toks, os⟩ (topStub PySem.Challenge.rw_yi0044_01.row.prog)).map
    (fun s => openSeen hdView [Str.ofString "PolynomialRing", Str.ofString "PolynomialNTT"] (importedModules PySem.Challenge.rw_yi0044_01.row.prog.main.body) (fun s => xlAt hdView [] s && recOk (RowW.records PySem.Challenge.rw_yi0044_01.row.toRowW) s) true s.abs) =
      some (openGood hdView [Str.ofString "PolynomialRing", Str.ofString "PolynomialNTT"]) := by
  intro w os
  show (topRunG _ (stepT _ PySem.Challenge.pw_yi0044_01 w) _ _ (topStub PySem.Challenge.pw_yi0044_01)).map _ = _
  rw [PySem.W.Fast.te4187177175401517315]
  refine slow_of ?_
  kernel_rfl
local macro_rules | `(tactic| o_head $H) => `(tactic| (
  (refine holds_open (q := hdView) (loose := [Str.ofString "PolynomialRing", Str.ofString "PolynomialNTT"]) (Xt := fun s => xlAt hdView [] s && recOk (RowW.records PySem.Challenge.rw_yi0044_01.row.toRowW) s) (XP := XL hdView []) (Yf := Hook.obs $H) (Ya := Hook.val $H) (YP := Hook.says $H) (N := 6274) ?hlx (Hook.of $H) (Hook.keeps $H) (fun s e => xl_of s (Bool.and_eq_true_iff.mp e).1) XL.keeps (by rfl) (by rfl) (by rfl) (fun s e => recFacts_of (Bool.and_eq_true_iff.mp e).2) (by rfl) (by first | assumption | decide +kernel) (by decide +kernel) ⟨rfl, rfl, rfl, rfl, rfl, by decide +kernel⟩ ?hw ?hc);
  (case hlx =>
    refine of_boot opened sized run_checks run_seen ?_
    intro w os
    show (topRunG _ (stepT _ PySem.Challenge.pw_yi0044_01 w) _ _ (topStub PySem.Challenge.pw_yi0044_01)).map _ = _
    refine slow_of ?_
    kernel_rfl)))
open_top hd for PySem.Challenge.rw_yi0044_01
end
end Mine
namespace Mine
section
local macro_rules | `(tactic| k_all) => `(tactic| assumption)
local macro_rules | `(tactic| k_room) => `(tactic| ((try simp only [depth_under_make, depth_under_kw, depth_in1, depth_deeper, depth_caller]); simp only [recursionLimit]; omega))
theorem getD_nonneg {ls : List Int} (h : ∀ v ∈ ls, 0 ≤ v) (i : Nat) : 0 ≤ ls.getD i 0 := by
  rw [List.getD_eq_getElem?_getD]
  cases q : ls[i]? with
  | none => exact Int.le_refl 0
  | some v => exact h v (List.mem_of_getElem? q)
theorem set_nonneg {ls : List Int} {i : Nat} {x : Int} (h : ∀ v ∈ ls, 0 ≤ v) (hx : 0 ≤ x) : ∀ v ∈ ls.set i x, 0 ≤ v := fun v hv =>
  (List.mem_or_eq_of_mem_set hv).elim (h v) fun e => e ▸ hx
theorem take {w : World} {A₀ : Around} {d u : Nat} {outer : List Env} {base h₀ : Heap} {L gl bi : Addr} {nms : List (Str × NameKind)} {ig ic : Bool} {mo : List (Str × Const)} {ce : List (Str × Addr)} {qu : Str} {fu : Option Addr} {cd : Value}
    {s : Shared} {m mg mb : Str → Option Value} {loose : List Str} {mean : ExcName → Option Value} {rest : List (Addr × Obj)} {st c n1 n2 : Nat} {a most : Int} {ta tm : Tok} {us : List Value} {ls : List Int}
    {Q E : Value → Shared → Prop}
    (B : Below A₀ base outer h₀) (F : Fr h₀ L s.heap m) (X : (hd.heap_39 w.params).In h₀)
    (N : News h₀ L s.heap ((st, W.listOf #[.int a ta, .ref c] n1) :: (c, W.listOf us.toArray n2) :: rest))
    (T : Top hdView loose mean mg mb h₀) (hdep : d ≤ 400)
    (hne : st ≠ c) (hr1 : ∀ p ∈ rest, p.1 ≠ st) (hr2 : ∀ p ∈ rest, p.1 ≠ c)
    (hI : IntsAre us ls) (h0 : 0 < ls.length) (h63 : ls.length ≤ 63) (hpos : ∀ v ∈ ls, 0 ≤ v) (ha : 0 ≤ a) (ha2 : a ≤ 1000) (hm0 : 0 < most) (hm1 : most ≤ 30000)
    (h : ∀ r t a' ta' us' ls' h' tk', 0 ≤ r → r < most → 0 ≤ a' → a' ≤ a + 1 → IntsAre us' ls' → ls'.length = ls.length → (∀ v ∈ ls', 0 ≤ v) → Fr h₀ L h' m →
      News h₀ L h' ((st, W.listOf #[.int a' ta', .ref c] n1) :: (c, W.listOf us'.toArray n2) :: rest) → Q (.int r t) { s with heap := h', toks := tk' }) :
    wpAny (model PySem.Challenge.rw_yi0044_01.row.prog w) { handled := none, depth := d, frames := some (Env.mk { kind := .function, names := nms, isGenerator := ig, isCoroutine := ic, more := mo } L gl ce qu fu cd (some L) bi :: outer), guards := some [], units := u }
      (call (.ref 440) [.ref st, .int most tm] []) Q E s := by
  revert X
  k_fill
  intro X
  k_with_none
  w_strict k_steps
  · refine' h _ _ _ _ _ _ _ _ ?r0 ?r1 ?a0 ?a1 ?I ?len ?pos ?F ?N
    case F => assumption
    case N => assumption
    case I => assumption
    case r0 => exact Int.fmod_nonneg_of_pos _ hm0
    case r1 => exact Int.fmod_lt_of_pos _ hm0
    case a0 => exact ha
    case a1 => omega
    case len => simp
    case pos => exact set_nonneg hpos (Int.fdiv_nonneg (getD_nonneg hpos _) (by omega))
  · refine' h _ _ _ _ _ _ _ _ ?r0 ?r1 ?a0 ?a1 ?I ?len ?pos ?F ?N
    case F => assumption
    case N => assumption
    case I => assumption
    case r0 => exact Int.fmod_nonneg_of_pos _ hm0
    case r1 => exact Int.fmod_lt_of_pos _ hm0
    case a0 => omega
    case a1 => omega
    case len => rfl
    case pos => exact hpos
end
end Mine
namespace Mine
section
theorem allLt_ne {d x : Nat} : ∀ {l : List (Addr × Obj)}, AllLt d l → d ≤ x → ∀ p ∈ l, p.1 ≠ x
  | [], _, _ => fun _ h => nomatch h
  | _ :: _, h, hx => fun q hq => by
    rcases List.mem_cons.mp hq with rfl | hq
    · have h1 : @LT.lt Nat _ q.1 d := h.1
      exact fun e => absurd h1 (by rw [e]; omega)
    · exact allLt_ne h.2 hx q hq
theorem rot3 {g h : Heap} {L : Addr} {x1 x2 x3 a b : Addr × Obj} {r : List (Addr × Obj)} (N : News g L h (x1 :: x2 :: x3 :: a :: b :: r)) : News g L h (a :: b :: x1 :: x2 :: x3 :: r) := fun p hp => N p (by
  simp only [List.mem_cons] at hp ⊢
  rcases hp with h | h | h | h | h | h <;> simp [h])
theorem sub_full {g h : Heap} {L : Addr} {l t x1 x2 x3 a b : Addr × Obj} {r : List (Addr × Obj)} (N : News g L h (l :: t :: a :: b :: x1 :: x2 :: x3 :: r)) : News g L h (l :: a :: b :: r) := fun p hp => N p (by
  simp only [List.mem_cons] at hp ⊢
  rcases hp with h | h | h | h <;> simp [h])
theorem mf256 {a k : Int} (h0 : 0 ≤ k) (h : k < 0 + (((256 : Int) - 0).toNat : Int)) : PySem.IntMulOk a k := PySem.IntMulOk.of_right (PySem.intBits_le_64 (by omega) (by omega))
local macro_rules | `(tactic| mul_fits) => `(tactic| exact mf256 (by with_reducible assumption) (by with_reducible assumption))
local macro_rules | `(tactic| k_all) => `(tactic| first | assumption | ((rename _ ∧ _ ∧ AllLt _ _ => q9'); exact allLt_ne q9'.2.2 (by omega)))
local macro_rules | `(tactic| k_room) => `(tactic| ((try simp only [depth_under_make, depth_under_kw, depth_in1, depth_deeper, depth_caller]); simp only [recursionLimit]; omega))
theorem full {w : World} {A₀ : Around} {d u : Nat} {outer : List Env} {base h₀ : Heap} {L gl bi : Addr} {nms : List (Str × NameKind)} {ig ic : Bool} {mo : List (Str × Const)} {ce : List (Str × Addr)} {qu : Str} {fu : Option Addr} {cd : Value}
    {s : Shared} {m mg mb : Str → Option Value} {loose : List Str} {mean : ExcName → Option Value} {rest : List (Addr × Obj)} {st c n1 n2 : Nat} {a : Int} {ta : Tok} {us : List Value} {ls : List Int}
    {Q E : Value → Shared → Prop}
    (B : Below A₀ base outer h₀) (F : Fr h₀ L s.heap m) (X : (hd.heap_39 w.params).In h₀)
    (N : News h₀ L s.heap ((st, W.listOf #[.int a ta, .ref c] n1) :: (c, W.listOf us.toArray n2) :: rest))
    (T : Top hdView loose mean mg mb h₀) (hdep : d ≤ 390)
    (hne : st ≠ c) (hr1 : ∀ p ∈ rest, p.1 ≠ st) (hr2 : ∀ p ∈ rest, p.1 ≠ c)
    (hI : IntsAre us ls) (h0 : 0 < ls.length) (h63 : ls.length ≤ 63) (hpos : ∀ v ∈ ls, 0 ≤ v) (ha : 0 ≤ a) (ha2 : a ≤ 900)
    (h : ∀ l us2 vs n3 a' ta' us' ls' h' tk', IntsAre us2 vs → vs.length = 256 → (∀ v ∈ vs, 0 ≤ v ∧ v < 3329) → st ≠ l → c ≠ l → LCg.Off1 l rest →
      0 ≤ a' → a' ≤ a + 3 → IntsAre us' ls' → ls'.length = ls.length → (∀ v ∈ ls', 0 ≤ v) → Fr h₀ L h' m →
      News h₀ L h' ((l, W.listOf us2.toArray n3) :: (st, W.listOf #[.int a' ta', .ref c] n1) :: (c, W.listOf us'.toArray n2) :: rest) → Q (.ref l) { s with heap := h', toks := tk' }) :
    wpAny (model PySem.Challenge.rw_yi0044_01.row.prog w) { handled := none, depth := d, frames := some (Env.mk { kind := .function, names := nms, isGenerator := ig, isCoroutine := ic, more := mo } L gl ce qu fu cd (some L) bi :: outer), guards := some [], units := u }
      (call (.ref 445) [.ref st] []) Q E s := by
  revert X
  k_fill
  intro X
  k_with_none
  (k_with "call ref" => (k_here; (with_reducible show wpAny _ _ (call (Value.ref 440) _ _) _ _ _); k_dflt (
  refine' take (by k_asm) (by k_asm) (by k_asm) (by first | k_asm | exact rot3 (by k_asm)) (by k_asm) (by (simp only [depth_deeper]; omega)) (by k_asm) (by k_all) (by k_all) (by k_asm) (by omega) (by omega) (by k_asm) (by omega) (by omega) (by omega) (by omega) ?_;
  k_whole; intro r' t' a' ta' us' ls' h' tk' hr0' hr1' ha0' ha1' hI' hl' hp' F' N'; (try k_sweep))))
  w_strict k_steps
  rename_i kF kN _ _
  have N2 := sub_full kN
  have hoff := ‹_ ∧ _ ∧ _ ∧ _ ∧ _ ∧ _ ∧ LCg.Off1 _ _›
  refine' h _ _ _ _ _ _ _ _ _ _ ?I2 ?len2 ?b2 ?o1 ?o2 ?o3 ?a0 ?a1 ?I ?len ?pos ?F ?N
  case F => assumption
  case N => exact N2
  case I2 => assumption
  case I => assumption
  case len2 => simp [rangeKs]
  case b2 =>
    intro v hv
    obtain ⟨k, _, rfl⟩ := List.mem_map.mp hv
    exact ⟨Int.fmod_nonneg_of_pos _ (by omega), Int.fmod_lt_of_pos _ (by omega)⟩
  case o1 => exact hoff.2.1
  case o2 => exact hoff.2.2.1
  case o3 => exact hoff.2.2.2.2.2.2
  case a0 => omega
  case a1 => omega
  case len => omega
  case pos => assumption
end
end Mine
namespace Mine
section
local macro_rules | `(tactic| k_room) => `(tactic| ((try simp only [depth_under_make, depth_under_kw, depth_in1, depth_deeper, depth_caller]); simp only [recursionLimit]; omega))
theorem sub_s1 {g h : Heap} {L : Addr} {l t1 t2 a : Addr × Obj} {r : List (Addr × Obj)} (N : News g L h (l :: a :: t1 :: t2 :: r)) : News g L h (l :: a :: r) := fun p hp => N p (by
  simp only [List.mem_cons] at hp ⊢
  rcases hp with h | h | h <;> simp [h])
theorem sub_s2 {g h : Heap} {L : Addr} {l t1 a : Addr × Obj} {r : List (Addr × Obj)} (N : News g L h (l :: a :: t1 :: r)) : News g L h (l :: a :: r) := fun p hp => N p (by
  simp only [List.mem_cons] at hp ⊢
  rcases hp with h | h | h <;> simp [h])
theorem state {w : World} {A₀ : Around} {d u : Nat} {outer : List Env} {base h₀ : Heap} {L gl bi : Addr} {nms : List (Str × NameKind)} {ig ic : Bool} {mo : List (Str × Const)} {ce : List (Str × Addr)} {qu : Str} {fu : Option Addr} {cd : Value}
    {s : Shared} {m mg mb : Str → Option Value} {loose : List Str} {mean : ExcName → Option Value} {x1 x2 x3 x4 : Nat} {o1 o2 o3 o4 : Obj} {sl : Nat} {vs : List Value} {ns : List Int}
    {Q E : Value → Shared → Prop}
    (B : Below A₀ base outer h₀) (F : Fr h₀ L s.heap m) (X : (hd.heap_39 w.params).In h₀)
    (N : News h₀ L s.heap [(x1, o1), (x2, o2), (x3, o3), (x4, o4)])
    (T : Top hdView loose mean mg mb h₀) (hdep : d ≤ 390) (hL : base.IsList sl vs.toArray)
    (hI : IntsAre vs ns) (h63 : ns.length ≤ 1000)
    (h : ∀ st c us ls t n1 n2 h' tk', IntsAre us ls → 0 < ls.length → ls.length ≤ 63 → (∀ v ∈ ls, 0 ≤ v) → st ≠ c → (x1 ≠ st ∧ x2 ≠ st ∧ x3 ≠ st ∧ x4 ≠ st) → (x1 ≠ c ∧ x2 ≠ c ∧ x3 ≠ c ∧ x4 ≠ c) → Fr h₀ L h' m →
      News h₀ L h' ((st, W.listOf #[.int 0 t, .ref c] n1) :: (c, W.listOf us.toArray n2) :: [(x1, o1), (x2, o2), (x3, o3), (x4, o4)]) → Q (.ref st) { s with heap := h', toks := tk' }) :
    wpAny (model PySem.Challenge.rw_yi0044_01.row.prog w) { handled := none, depth := d, frames := some (Env.mk { kind := .function, names := nms, isGenerator := ig, isCoroutine := ic, more := mo } L gl ce qu fu cd (some L) bi :: outer), guards := some [], units := u }
      (call (.ref 433) [.ref sl] []) Q E s := by
  revert X
  k_fill
  intro X
  k_with_none
  w_strict k_steps
  · rename_i kF kN _ _
    have N2 := sub_s1 kN
    refine' h _ _ _ _ _ _ _ _ _ ?I ?l0 ?l63 ?pos ?ne ?o1 ?o2 ?F ?N
    case F => assumption
    case N => exact N2
    case I => exact IntsAre.cons 0 _ .nil
    case l0 => decide
    case l63 => decide
    case pos => intro v hv; rw [List.mem_singleton] at hv; omega
    case ne => omega
    case o1 => omega
    case o2 => omega
  · rename_i kF kN _ _
    have N2 := sub_s2 kN
    refine' h _ _ _ _ _ _ _ _ _ ?I ?l0 ?l63 ?pos ?ne ?o1 ?o2 ?F ?N
    case F => assumption
    case N => exact N2
    case I => assumption
    case l0 => omega
    case l63 => rw [List.length_map, List.length_take]; omega
    case pos =>
      intro v hv
      obtain ⟨k, _, rfl⟩ := List.mem_map.mp hv
      split <;> omega
    case ne => omega
    case o1 => omega
    case o2 => omega
end
end Mine
namespace Mine
section
open PySem PySem.W PyProof.Rows PySem.Calls
theorem gives_pm {e : Int} (he : 0 ≤ e) (t u v : Tok) : Gives (Builtin.«int.__pow__» ⟨[.int 17 t, .int e u, .int 3329 v], []⟩) (.int (Builtin.powMod 17 e.natAbs 3329 : Nat)) :=
  .of_wp fun M A E s Q h => by
    obtain ⟨hp, g, d, tk, os⟩ := s
    have h1 : ¬ e < 0 := by omega
    have h2 : (decide (e < 0)) = false := decide_eq_false h1
    repeat (any_goals (first | assumption | wp_step))
    refine ⟨_, rfl, ?_⟩
    rw [if_neg (by simp)]
    exact h
theorem gives_pi (t u v : Tok) : Gives (Builtin.«int.__pow__» ⟨[.int 128 t, .int (-1) u, .int 3329 v], []⟩) (.int 3303) :=
  .of_wp fun M A E s Q h => by
    obtain ⟨hp, g, d, tk, os⟩ := s
    repeat (any_goals (first | assumption | wp_step))
    refine ⟨_, rfl, ?_⟩
    have e : (if (decide ((3329 : Int) < 0) && ((Builtin.powMod ((0 - ((Int.natAbs 3329 : Nat) : Int) / (((128 : Int) % ((Int.natAbs 3329 : Nat) : Int)).toNat : Int) * 1) % ((Int.natAbs 3329 : Nat) : Int)).toNat (-1 : Int).natAbs (Int.natAbs 3329) : Nat) : Int) != 0) = true then
        ((Builtin.powMod ((0 - ((Int.natAbs 3329 : Nat) : Int) / (((128 : Int) % ((Int.natAbs 3329 : Nat) : Int)).toNat : Int) * 1) % ((Int.natAbs 3329 : Nat) : Int)).toNat (-1 : Int).natAbs (Int.natAbs 3329) : Nat) : Int) - ((Int.natAbs 3329 : Nat) : Int)
      else ((Builtin.powMod ((0 - ((Int.natAbs 3329 : Nat) : Int) / (((128 : Int) % ((Int.natAbs 3329 : Nat) : Int)).toNat : Int) * 1) % ((Int.natAbs 3329 : Nat) : Int)).toNat (-1 : Int).natAbs (Int.natAbs 3329) : Nat) : Int)) = 3303 := by decide +kernel
    rw [e]
    exact h
theorem look_pow : typeLookup (.type "int") (Str.ofString "__pow__") = pure (some (.builtin "int.__pow__")) := by rw [typeLookup_type, builtinLookup_eq_fast]; kernel_rfl
theorem args3 (a b c : Value) : argsOk "int.__pow__" ⟨[a, b, c], []⟩ := by unfold argsOk; kernel_rfl
theorem meets_pow {a : Int} {b c : Int} {r : Int} {t u v : Tok} (hg : Gives (Builtin.«int.__pow__» ⟨[.int a t, .int b u, .int c v], []⟩) (.int r)) :
    Meets (Builtin.«pow» ⟨[.int a t, .int b u, .int c v], []⟩) (Made.int r).spec :=
  Meets.of_wp fun prog w A R s hs => by
    obtain ⟨hp, g, d, tk, os⟩ := s
    have hT : (⟨hp, g, d, tk, os⟩ : Shared).TypeIs (.int a t) "int" := rfl
    have f3 := look_pow
    have f4 := slot_int_pow.bind (.int a t)
    repeat (any_goals (first | assumption | ((with_reducible show wpAny _ _ (call (Value.builtin "int.__pow__") _ _) _ _ _); refine call_gives slot_int_pow hT entry_int_pow (args3 _ _ _) hg ?_; dsimp only [Made.post]) | wp_step))
    all_goals exact ⟨_, rfl, hs⟩
theorem entry_pow : entryFor table "pow" = some Builtin.«pow» := entryFor_of_tree (by kernel_rfl)
theorem kind_pow : builtinKind "pow" = none := by decide +kernel
theorem plain_pow : plainId "pow" = true := by decide +kernel
theorem args_pow (a b c : Value) : argsOk "pow" ⟨[a, b, c], []⟩ := by unfold argsOk; kernel_rfl
section
variable {prog : Program} {w : World} {A : Around} {E : Value → Shared → Prop} {s : Shared} {Q : Value → Shared → Prop} {t u v : Tok}
theorem call_pow {a b c r : Int} (hg : Gives (Builtin.«int.__pow__» ⟨[.int a t, .int b u, .int c v], []⟩) (.int r)) (h : Q (.int r s.toks) { s with toks := s.toks + 1 }) :
    wpAny (model prog w) A (call (.builtin "pow") [.int a t, .int b u, .int c v]) Q E s :=
  call_function_meets kind_pow plain_pow entry_pow (args_pow _ _ _) (meets_pow hg) (show (Made.int r).post _ s from h)
theorem pow_up {e : Int} (he : 0 ≤ e) (h : Q (.int (Builtin.powMod 17 e.natAbs 3329 : Nat) s.toks) { s with toks := s.toks + 1 }) :
    wpAny (model prog w) A (call (.builtin "pow") [.int 17 t, .int e u, .int 3329 v]) Q E s := call_pow (gives_pm he t u v) h
theorem pow_inv (h : Q (.int 3303 s.toks) { s with toks := s.toks + 1 }) :
    wpAny (model prog w) A (call (.builtin "pow") [.int 128 t, .int (-1) u, .int 3329 v]) Q E s := call_pow (gives_pi t u v) h
end

-- the text of a small number, its bits turned round
def tz (k : Int) : Str := Txt.zfill (Txt.slice (baseText "0b" 2 k) (some 2) none) 7
def tr (k : Int) (u : Tok) : Str := Txt.sliceBy (tz k) none none (-1, u)
def seen (x : Str) : List Nat := ((if x.cps.all (· < 128) then x.cps.toList else Unicode.numberText x.cps.toList)).takeWhile (· != 0)
noncomputable def valOf (x : int_private% "Numeral") : Option Int := by
  cases x
  case value i => exact some i
  all_goals exact none
theorem valOf_some {x : int_private% "Numeral"} {i : Int} (h : valOf x = some i) : x = (int_private% "Numeral.value") i := by
  cases x
  case value j => cases h; rfl
  all_goals cases h
noncomputable def brv (k : Int) : Int := (valOf ((int_private% "readNumeral") 0 2 (seen (tr k 0)))).getD 0
theorem tz_len : ∀ n : Nat, n < 128 → (tz (n : Int)).length = 7 := by decide +kernel
theorem tr_eq (k : Int) (u : Tok) : tr k u = tr k 0 := rfl
theorem tr_all : ∀ n : Nat, n < 128 → ((tr (n : Int) 0).cps.all (· < 128) && (seen (tr (n : Int) 0)).length == 7 && (tr (n : Int) 0).length == 7 && (valOf ((int_private% "readNumeral") 0 2 (seen (tr (n : Int) 0)))).any (fun v => 0 ≤ v && v < 128)) = true := by decide +kernel
end
end Mine
namespace Mine
section
open PySem PySem.W PyProof.Rows PySem.Calls
theorem wp_text2 {M : Model} {A : Around} {E : Value → Shared → Prop} {s : Shared} {Q : Value → Shared → Prop} {v : Value} {text : List Nat} {n : Int}
    (hs : (text.takeWhile (· != 0)).length ≤ 640) (hr : (int_private% "readNumeral") 0 2 (text.takeWhile (· != 0)) = (int_private% "Numeral.value") n)
    (ha : ((text.takeWhile (· != 0)).length == text.length) = true) (h : Q (.int n s.toks) { s with toks := s.toks + 1 }) :
    wpAny M A ((int_private% "intFromText") v text 2) Q E s := by
  obtain ⟨hp, g, d, tk, os⟩ := s
  repeat (any_goals (first
    | assumption
    | (with_reducible refine wpAny_ite_true (decide_eq_true hs) ?_)
    | (with_reducible refine wpAny_ite_true (decide_eq_true ha) ?_)
    | wp_step))
  all_goals (try rw [hr])
  all_goals (try dsimp only)
  repeat (any_goals (first
    | assumption
    | (with_reducible refine wpAny_ite_true (decide_eq_true hs) ?_)
    | (with_reducible refine wpAny_ite_true (decide_eq_true ha) ?_)
    | wp_step))
def textOf (x : Str) : List Nat := if x.cps.all (· < 128) then x.cps.toList else Unicode.numberText x.cps.toList
theorem gives_int2 {x : Str} {u v : Tok} {n : Int} (hs : (seen x).length ≤ 640) (hr : (int_private% "readNumeral") 0 2 (seen x) = (int_private% "Numeral.value") n)
    (ha : ((seen x).length == (textOf x).length) = true) : Gives (Builtin.«int.__new__» ⟨[.type "int", .str x u, .int 2 v], []⟩) (.int n) :=
  .of_wp fun M A E s Q h => by
    obtain ⟨hp, g, d, tk, os⟩ := s
    have f1 := F.conv_sub_int
    have f2 := F.madeHere_int
    have f6 : typeOf (.str x u) = pure (.type "str") := rfl
    have f7 : typeOf (.int 2 v) = pure (.type "int") := rfl
    have hk := KIN.Hid.mk (And.intro hs (And.intro hr ha))
    clear hs hr ha
    repeat (any_goals (first
      | assumption
      | ((with_reducible show wpAny _ _ ((int_private% "intFromText") _ _ _) _ _ _); refine wp_text2 hk.out.1 hk.out.2.1 hk.out.2.2 ?_)
      | wp_step))
    all_goals exact ⟨_, rfl, h⟩
theorem typeCall2 (a b : Value) : checkTypeCall "int" ⟨[a, b], []⟩ = pure () := by kernel_rfl
theorem newCall2 (a b : Value) : checkBuiltinCall "int.__new__" ⟨[.type "int", a, b], []⟩ = pure () := by kernel_rfl
theorem args_init3 (o a b : Value) : argsOk "object.__init__" ⟨[o, a, b], []⟩ := by unfold argsOk; kernel_rfl
section
variable {prog : Program} {w : World} {A : Around} {E : Value → Shared → Prop} {s : Shared} {Q : Value → Shared → Prop} {t u : Tok}
theorem call_int2 {x : Str} {n : Int} (hs : (seen x).length ≤ 640) (hr : (int_private% "readNumeral") 0 2 (seen x) = (int_private% "Numeral.value") n)
    (ha : ((seen x).length == (textOf x).length) = true) (h : Q (.int n s.toks) { s with toks := s.toks + 1 }) : wpAny (model prog w) A (call (.type "int") [.str x t, .int 2 u]) Q E s :=
  callType_new F.called_int F.newNe_int (typeCall2 _ _) (newCall2 _ _) (fun o => args_init3 o _ _) F.entry_int_new (gives_int2 hs hr ha).meets (show (Made.int n).post _ s from ⟨rfl, h⟩)
theorem tr_facts {k : Int} (h0 : 0 ≤ k) (h1 : k < 128) : (tr k 0).cps.all (· < 128) = true ∧ (seen (tr k 0)).length = 7 ∧ (tr k 0).length = 7 ∧ ∃ v, valOf ((int_private% "readNumeral") 0 2 (seen (tr k 0))) = some v ∧ 0 ≤ v ∧ v < 128 := by
  have h := tr_all k.toNat (by omega)
  rw [Int.toNat_of_nonneg h0] at h
  simp only [Bool.and_eq_true, beq_iff_eq] at h
  obtain ⟨⟨⟨a, b⟩, c⟩, d⟩ := h
  refine ⟨a, b, c, ?_⟩
  cases q : valOf ((int_private% "readNumeral") 0 2 (seen (tr k 0))) with
  | none => rw [q] at d; cases d
  | some v =>
    rw [q] at d
    simp only [Option.any_some, Bool.and_eq_true, decide_eq_true_eq] at d
    exact ⟨v, rfl, d.1, d.2⟩
theorem brv_facts {k : Int} (h0 : 0 ≤ k) (h1 : k < 128) : valOf ((int_private% "readNumeral") 0 2 (seen (tr k 0))) = some (brv k) ∧ 0 ≤ brv k ∧ brv k < 128 := by
  obtain ⟨_, _, _, v, hv, a, b⟩ := tr_facts h0 h1
  have e : brv k = v := by unfold brv; rw [hv]; rfl
  rw [e]; exact ⟨hv, a, b⟩
theorem int_br {k : Int} {uu : Tok} (h0 : 0 ≤ k) (h1 : k < 128) (h : Q (.int (brv k) s.toks) { s with toks := s.toks + 1 }) : wpAny (model prog w) A (call (.type "int") [.str (tr k uu) t, .int 2 u]) Q E s := by
  obtain ⟨a, b, c, _⟩ := tr_facts h0 h1
  refine call_int2 (x := tr k 0) (by rw [b]; decide) (valOf_some (brv_facts h0 h1).1) ?_ h
  unfold textOf
  rw [if_pos a, b]
  show (7 == (tr k 0).cps.toList.length) = true
  rw [Array.length_toList]
  show (7 == (tr k 0).length) = true
  rw [c]; rfl
theorem tz_size {k : Int} (h0 : 0 ≤ k) (h1 : k < 128) : (tz k).length ≤ sizeLine := by
  have h := tz_len k.toNat (by omega)
  rw [Int.toNat_of_nonneg h0] at h
  rw [h, sizeLine_eq]; decide
end
end
end Mine
namespace Mine
section
theorem band7 {k : Int} (h0 : 0 ≤ k) (h1 : k < 128) : Builtin.bitAnd k (2 ^ Int.toNat 7 - 1) = k := by
  have h : ∀ n : Nat, n < 128 → Builtin.bitAnd (n : Int) (2 ^ Int.toNat 7 - 1) = n := by decide +kernel
  have := h k.toNat (by omega)
  rwa [Int.toNat_of_nonneg h0] at this
theorem bin7 {prog : Program} {w : World} {A : Around} {E : Value → Shared → Prop} {s : Shared} {k : Int} {t : Tok} {Q : Value → Shared → Prop} (h0 : 0 ≤ k) (h1 : k < 128) (h : Q (.str (baseText "0b" 2 k) s.toks) { s with toks := s.toks + 1 }) :
    wpAny (model prog w) A (call (.builtin "bin") [.int (Builtin.bitAnd k (2 ^ Int.toNat 7 - 1)) t]) Q E s := by
  rw [band7 h0 h1]
  exact P.bin_of_int h (baseText_under (by decide) (by decide) (by omega))
local macro_rules | `(tactic| k_room) => `(tactic| ((try simp only [depth_under_make, depth_under_kw, depth_in1, depth_deeper, depth_caller]); simp only [recursionLimit]; omega))
theorem br {w : World} {A₀ : Around} {d u : Nat} {hnd : Option Value} {gua : Option (List Code)} {outer : List Env} {base h₀ : Heap} {L gl bi : Addr} {nms : List (Str × NameKind)} {ig ic : Bool} {mo : List (Str × Const)} {ce : List (Str × Addr)} {qu : Str} {fu : Option Addr} {cd : Value}
    {s : Shared} {m mg mb : Str → Option Value} {loose : List Str} {mean : ExcName → Option Value} {news : List (Addr × Obj)} {k : Int} {t t2 : Tok}
    {Q E : Value → Shared → Prop}
    (B : Below A₀ base outer h₀) (F : Fr h₀ L s.heap m) (X : (hd.heap_39 w.params).In h₀)
    (N : News h₀ L s.heap news)
    (T : Top hdView loose mean mg mb h₀) (hdep : d ≤ 390) (h0 : 0 ≤ k) (h1 : k < 128)
    (h : ∀ t' h' tk', Fr h₀ L h' m → News h₀ L h' news → Q (.int (brv k) t') { s with heap := h', toks := tk' }) :
    wpAny (model PySem.Challenge.rw_yi0044_01.row.prog w) { handled := hnd, depth := d, frames := some (Env.mk { kind := .function, names := nms, isGenerator := ig, isCoroutine := ic, more := mo } L gl ce qu fu cd (some L) bi :: outer), guards := gua, units := u }
      (call (.ref 245) [.int k t, .int 7 t2] []) Q E s := by
  revert X
  k_fill
  intro X
  k_with_none
  (k_with "call builtin:bin" => (k_here; k_dflt (refine' bin7 (by assumption) (by assumption) ?_; k_whole)))
  (k_with "call type:int" => (k_here; k_dflt (refine' int_br (by assumption) (by assumption) ?_; k_whole)))
  (k_with "subscriptTail Name Slice str ref" => ((with_reducible show wpAny _ _ (subscriptTail _ (Expr.Slice none none (some _) _) _ _) _ _ _); (with_reducible rename Fr _ _ _ _ => F'); (with_reducible rename News _ _ _ _ => N'); k_dflt (refine slice_strK_nn (hsz := (by exact tz_size (by assumption) (by assumption))) (s := ⟨_, _, _, _, _⟩) F' N' (by decide) ?_); intro h' t' c' F' N'))
  w_strict k_steps
  refine' h _ _ _ ?F ?N
  case F => assumption
  case N => assumption
end
end Mine
namespace Mine
section
abbrev ringDict (w : World) (z : Addr) (t1 t2 t3 t4 t5 t6 : Tok) (t7 : Int) (t8 : Tok) (n : Nat) : Obj :=
  dictOf [{ hash := PyData.keyHash w.params (Str.ofString "q"), key := Value.str (Str.ofString "q") t1, val := Value.int 3329 t2 },
        { hash := PyData.keyHash w.params (Str.ofString "n"), key := Value.str (Str.ofString "n") t3, val := Value.int 256 t4 },
        { hash := PyData.keyHash w.params (Str.ofString "ntt_zetas"), key := Value.str (Str.ofString "ntt_zetas") t5, val := Value.ref z },
        { hash := PyData.keyHash w.params (Str.ofString "ntt_f"), key := Value.str (Str.ofString "ntt_f") t6, val := Value.int t7 t8 }] n
abbrev polyDict (w : World) (x l : Addr) (t1 t2 : Tok) : Obj :=
  dictOf [{ hash := PyData.keyHash w.params (Str.ofString "parent"), key := Value.str (Str.ofString "parent") t1, val := Value.ref x },
        { hash := PyData.keyHash w.params (Str.ofString "coeffs"), key := Value.str (Str.ofString "coeffs") t2, val := Value.ref l }] 2
local macro_rules | `(tactic| k_all) => `(tactic| first | assumption | exact allLt_ne (by assumption) (by omega) | ((rename _ ∧ _ ∧ _ ∧ AllLt _ _ => q9'); exact allLt_ne q9'.2.2.2 (by omega)))
local macro_rules | `(tactic| k_room) => `(tactic| ((try simp only [depth_under_make, depth_under_kw, depth_in1, depth_deeper, depth_caller]); simp only [recursionLimit]; omega))
theorem mk {w : World} {A₀ : Around} {d u : Nat} {hnd : Option Value} {gua : Option (List Code)} {outer : List Env} {base h₀ : Heap} {L gl bi : Addr} {nms : List (Str × NameKind)} {ig ic : Bool} {mo : List (Str × Const)} {ce : List (Str × Addr)} {qu : Str} {fu : Option Addr} {cd : Value}
    {s : Shared} {m mg mb : Str → Option Value} {loose : List Str} {mean : ExcName → Option Value} {rest : List (Addr × Obj)}
    {x dx l z n nl : Nat} {t1 t2 t3 t4 t5 t6 t8 : Tok} {t7 : Int} {us : List Value} {vs : List Int}
    {Q E : Value → Shared → Prop}
    (B : Below A₀ base outer h₀) (F : Fr h₀ L s.heap m) (X : (hd.heap_39 w.params).In h₀)
    (N : News h₀ L s.heap ((l, W.listOf us.toArray nl) :: (x, instObj 282 dx) :: (dx, ringDict w z t1 t2 t3 t4 t5 t6 t7 t8 n) :: rest))
    (T : Top hdView loose mean mg mb h₀) (hdep : d ≤ 380) (hI : IntsAre us vs) (hlen : vs.length = 256)
    (h : ∀ p dp t1' t2' h' tk', AllLt dp ((l, W.listOf us.toArray nl) :: (x, instObj 282 dx) :: (dx, ringDict w z t1 t2 t3 t4 t5 t6 t7 t8 n) :: rest) → @LT.lt Nat _ dp p → Fr h₀ L h' m →
      News h₀ L h' ((p, instObj 426 dp) :: (dp, polyDict w x l t1' t2') :: (l, W.listOf us.toArray nl) :: (x, instObj 282 dx) :: (dx, ringDict w z t1 t2 t3 t4 t5 t6 t7 t8 n) :: rest) → Q (.ref p) { s with heap := h', toks := tk' }) :
    wpAny (model PySem.Challenge.rw_yi0044_01.row.prog w) { handled := hnd, depth := d, frames := some (Env.mk { kind := .function, names := nms, isGenerator := ig, isCoroutine := ic, more := mo } L gl ce qu fu cd (some L) bi :: outer), guards := gua, units := u }
      (call (.ref x) [.ref l] [(Str.ofString "is_ntt", .bool true)]) Q E s := by
  revert X
  k_fill
  intro X
  have hul := hI.length
  k_with_none
  w_strict k_steps
  have q := ‹_ ∧ _ ∧ _ ∧ AllLt _ rest›
  refine' h _ _ _ _ _ _ ?o1 ?o2 ?F ?N
  case F => assumption
  case N => assumption
  case o1 => exact q
  case o2 => assumption
end
end Mine
namespace Mine
section
theorem lt128 {k : Int} (h : k < 0 + (((128 : Int) - 0).toNat : Int)) : k < 128 := by simpa using h
local macro_rules | `(tactic| k_room) => `(tactic| ((try simp only [depth_under_make, depth_under_kw, depth_in1, depth_deeper, depth_caller]); simp only [recursionLimit]; omega))
theorem sub_r {g h : Heap} {L : Addr} {a b c : Addr × Obj} {r : List (Addr × Obj)} (N : News g L h (a :: b :: c :: r)) : News g L h r := fun p hp => N p (.tail _ (.tail _ (.tail _ hp)))
theorem ring {w : World} {A₀ : Around} {d u : Nat} {outer : List Env} {base h₀ : Heap} {L gl bi : Addr} {nms : List (Str × NameKind)} {ig ic : Bool} {mo : List (Str × Const)} {ce : List (Str × Addr)} {qu : Str} {fu : Option Addr} {cd : Value}
    {s : Shared} {m mg mb : Str → Option Value} {loose : List Str} {mean : ExcName → Option Value} {x1 x2 x3 x4 x5 x6 : Nat} {o1 o2 o3 o4 o5 o6 : Obj}
    {Q E : Value → Shared → Prop}
    (B : Below A₀ base outer h₀) (F : Fr h₀ L s.heap m) (X : (hd.heap_39 w.params).In h₀)
    (N : News h₀ L s.heap [(x1, o1), (x2, o2), (x3, o3), (x4, o4), (x5, o5), (x6, o6)])
    (T : Top hdView loose mean mg mb h₀) (hdep : d ≤ 380)
    (h : ∀ x dx z t1 t2 t3 t4 t5 t6 t7 t8 n h' tk', x1 < dx → x2 < dx → x3 < dx → x4 < dx → x5 < dx → x6 < dx → dx < x → Fr h₀ L h' m →
      News h₀ L h' ((x, instObj 282 dx) :: (dx, dictOf [{ hash := PyData.keyHash w.params (Str.ofString "q"), key := Value.str (Str.ofString "q") t1, val := Value.int 3329 t2 },
        { hash := PyData.keyHash w.params (Str.ofString "n"), key := Value.str (Str.ofString "n") t3, val := Value.int 256 t4 },
        { hash := PyData.keyHash w.params (Str.ofString "ntt_zetas"), key := Value.str (Str.ofString "ntt_zetas") t5, val := Value.ref z },
        { hash := PyData.keyHash w.params (Str.ofString "ntt_f"), key := Value.str (Str.ofString "ntt_f") t6, val := Value.int t7 t8 }] n) :: [(x1, o1), (x2, o2), (x3, o3), (x4, o4), (x5, o5), (x6, o6)]) → Q (.ref x) { s with heap := h', toks := tk' }) :
    wpAny (model PySem.Challenge.rw_yi0044_01.row.prog w) { handled := none, depth := d, frames := some (Env.mk { kind := .function, names := nms, isGenerator := ig, isCoroutine := ic, more := mo } L gl ce qu fu cd (some L) bi :: outer), guards := some [], units := u }
      (call (.ref 282) [] []) Q E s := by
  revert X
  k_fill
  intro X
  k_with_none
  (k_with "call ref" => (k_here; (with_reducible show wpAny _ _ (call (Value.ref 245) _ _) _ _ _); k_dflt (
  refine' br (by k_asm) (by k_asm) (by k_asm) (by k_asm) (by k_asm) (by (simp only [depth_under_make, depth_under_kw, depth_in1, depth_deeper, depth_caller]; omega)) (by assumption) (by assumption) ?_; k_whole; intro t' h' tk' F' N')))
  (k_with "call builtin:pow" => (k_here; k_dflt (first | (refine' pow_inv ?_; k_whole) | (refine' pow_up (brv_facts (by assumption) (by assumption)).2.1 ?_; k_whole))))
  (k_with "getMethod ref" => (k_here; (with_reducible show wpAny _ _ (getMethod (Value.ref _) (PySem.Str.ofString "_br") _) _ _ _); (rename _ < 0 + (((128 : Int) - 0).toNat : Int) => hq0); (have hq := lt128 hq0); (clear hq0); k_dflt (refine' kmu_sm (by k_asm) (by k_asm) (by k_inst) (by k_is) (by k_is) (by k_is) (by k_is) (by k_is) (by k_is) (by decide +kernel) (by k_get) (by k_is) (by k_handed) ?_; k_whole)))
  w_strict k_steps
  rename_i kF kN _ _
  have N2 := sub_r kN
  refine' h _ _ _ _ _ _ _ _ _ _ _ _ _ _ ?l1 ?l2 ?l3 ?l4 ?l5 ?l6 ?l7 ?F ?N
  case F => assumption
  case N => exact N2
  case l1 => omega
  case l2 => omega
  case l3 => omega
  case l4 => omega
  case l5 => omega
  case l6 => omega
  case l7 => omega
end
end Mine
namespace Mine
section
open PySem PySem.W PySem.Spec PySem.Calls PyProof.Rows PyProof.Rows.LCg
theorem fr_wr {h₀ h h' : Heap} {L : Addr} {wr : List Addr} {m : Str → Option Value} (F : Fr h₀ L h m) (hk : ∀ b o, b ∉ wr → h.get? b = some o → h'.get? b = some o) (hL : L ∉ wr) (h0 : ∀ b ∈ wr, h₀.get? b = none) : Fr h₀ L h' m :=
  ⟨F.ns.at' fun o e => hk L o hL e, fun b o e => hk b o (fun hm => by rw [h0 b hm] at e; cases e) (F.keep b o e), F.above⟩
section
variable {prog : Program} {w : World} {A : Around} {E : Value → Shared → Prop} {s : Shared} {h₀ : Heap} {L : Addr} {m : Str → Option Value} {env : Env}
theorem block_Z {elt iter : PySem.Expr} {x x₂ : Str} {px px₂ tp : Pos} {kk : Nat} {scope : Scope} {cl : List (Str × Addr)} {pos : Pos} {s₂ : Shared} {z TI TO i1 i2 l1 l2 : Addr} {lo1 lo2 : Obj} {xs ys : List Value} {nn1 nn2 : Nat} {news : List (Addr × Obj)}
    {Y : Nat → Value → Prop} {RR : Value → Addr → Result → Shared → Prop}
    (hh : A.handled = none) (D5 : ZipApart z TI TO i1 i2 l1 l2) (hsz : xs.length ≤ sizeLine) (hxy : ys.length = xs.length)
    (hcell : ∀ y ∈ scope.names, y.2 ≠ .cell) (hkind : scope.kind = .function) (hx : scope.names.lookup x = some .local) (hx₂ : scope.names.lookup x₂ = some .local) (hxx : x ≠ x₂)
    (hz : IsZip s₂.heap z TI TO .none) (hTI : IsPair s₂.heap TI (.ref i1) (.ref i2)) (hTO : ∃ a b, IsPair s₂.heap TO a b) (hi1 : s₂.heap.IsListIter i1 l1 0) (hi2 : s₂.heap.IsListIter i2 l2 0)
    (F : Fr h₀ L s₂.heap m) (N : News h₀ L s₂.heap news) (hm1 : (l1, lo1) ∈ news) (hc1 : lo1.cls = .type "list") (hd1 : lo1.data = .seq xs.toArray nn1) (hm2 : (l2, lo2) ∈ news) (hc2 : lo2.cls = .type "list") (hd2 : lo2.data = .seq ys.toArray nn2)
    (hL5 : ∀ b ∈ [z, TI, TO, i1, i2], b ≠ L ∧ h₀.get? b = none) (off5 : ∀ p ∈ news, p.1 ∉ [z, TI, TO, i1, i2])
    (helt : ∀ i a b oz oTI oTO o1 o2 C oC D us m₂ h tk (E' : Value → Shared → Prop) (Q' : Value → Shared → Prop), xs[i]? = some a → ys[i]? = some b → NsObj oC m₂ → m₂ x = some a → m₂ x₂ = some b → Fr h₀ L h m →
      News h₀ L h ((z, oz) :: (TI, oTI) :: (TO, oTO) :: (i1, o1) :: (i2, o2) :: (C, oC) :: (D, lst us) :: news) →
      (∀ y h' tk', Y i y → Fr h₀ L h' m → News h₀ L h' ((z, oz) :: (TI, oTI) :: (TO, oTO) :: (i1, o1) :: (i2, o2) :: (C, oC) :: (D, lst us) :: news) → Q' y { s₂ with heap := h', toks := tk' }) →
      wpAny (model prog w) A (eval elt (compEnvC scope cl C env)) Q' E' { s₂ with heap := h, toks := tk })
    (hRR : ∀ D C h tk m' us, Fr h₀ L h m → News h₀ L h ((D, lst us) :: news) → Off1 D news → h.Ns C m' → h₀.get? C = none → h₀.get? D = none → C ≠ L → D ≠ L → C ≠ D → (∀ p ∈ news, p.1 ≠ C) → us.length = xs.length → (∀ i y, us[i]? = some y → Y i y) → RR (.ref D) C (.ok .next) { s₂ with heap := h, toks := tk }) :
    wpAny (model prog w) A (newList []) (fun acc s₃ => wpAny (model prog w) A (newFunctionEnv scope env.globals cl [] env.qual none .none (some env)) (fun cenv s₄ =>
      codeAny (model prog w) A (.compStart (.ListComp elt [⟨.Tuple [.Name x px, .Name x₂ px₂] kk tp, iter, [], 0⟩] scope pos) 0 (.ref z) acc { cenv with scope := relabel scope env }) (RR acc cenv.locals) s₄) E s₃) E s₂ := by
  have W := (WalksT.zip2 (prog := prog) (w := w) (A := A) hh z TI TO i1 i2 l1 l2 D5 xs.toArray ys.toArray)
  have hn : min xs.toArray.size ys.toArray.size = xs.length := by simp [hxy]
  rw [hn] at W
  have hl1 : s₂.heap.IsList l1 xs.toArray := ⟨lo1, (N _ hm1).1, hc1, nn1, hd1⟩
  have hl2 : s₂.heap.IsList l2 ys.toArray := ⟨lo2, (N _ hm2).1, hc2, nn2, hd2⟩
  have hfp : ∀ b ∈ [z, TI, TO, i1, i2, l1, l2], b < s₂.heap.objs.size := by
    intro b hb
    obtain ⟨a, b', hTO⟩ := hTO
    obtain ⟨_, e1, _⟩ := hi1
    obtain ⟨_, e2, _⟩ := hi2
    simp only [List.mem_cons, List.not_mem_nil, or_false] at hb
    rcases hb with rfl | rfl | rfl | rfl | rfl | rfl | rfl
    · exact Heap.lt_size hz
    · exact Heap.lt_size hTI
    · exact Heap.lt_size hTO
    · exact Heap.lt_size e1
    · exact Heap.lt_size e2
    · exact Heap.lt_size (N _ hm1).1
    · exact Heap.lt_size (N _ hm2).1
  have hwr5 : ∀ b ∈ [z, TO, i1, i2], b ∈ [z, TI, TO, i1, i2] := by
    intro b hb
    simp only [List.mem_cons, List.not_mem_nil, or_false] at hb ⊢
    rcases hb with h | h | h | h <;> simp [h]
  have hLw : L ∉ [z, TO, i1, i2] := fun hm => (hL5 L (hwr5 L hm)).1 rfl
  have h0w : ∀ b ∈ [z, TO, i1, i2], h₀.get? b = none := fun b hb => (hL5 b (hwr5 b hb)).2
  have offw : ∀ p ∈ news, p.1 ∉ [z, TO, i1, i2] := fun p hp hm => off5 p hp (hwr5 _ hm)
  refine wpAny_newObj_type (wpAny_newFunctionEnv hcell (by intro y hy; simp at hy) (fun h₁ hns₁ hsb₁ => ?_) hkind)
  dsimp only at hns₁ hsb₁ ⊢
  generalize hH2 : s₂.heap.push { cls := .type "list", dict := none, data := .seq ([] : List Value).toArray } = H2 at hns₁ hsb₁ ⊢
  have hC : H2.objs.size = s₂.heap.objs.size + 1 := by rw [← hH2, Heap.size_push]
  have hDC : s₂.heap.objs.size ≠ H2.objs.size := by rw [hC]; exact Nat.ne_of_lt (Nat.lt_succ_self _)
  have below : ∀ b, b < s₂.heap.objs.size → b ≠ H2.objs.size ∧ b ≠ s₂.heap.objs.size := fun b hb => ⟨by rw [hC]; exact Nat.ne_of_lt (Nat.lt_succ_of_lt hb), Nat.ne_of_lt hb⟩
  have hDf : s₂.heap.objs.size ∉ [z, TI, TO, i1, i2, l1, l2] := fun hm => Nat.lt_irrefl _ (hfp _ hm)
  have hCf : H2.objs.size ∉ [z, TI, TO, i1, i2, l1, l2] := fun hm => by have := hfp _ hm; rw [hC] at this; exact Nat.lt_irrefl _ (Nat.lt_of_succ_lt this)
  have hDw : s₂.heap.objs.size ∉ [z, TO, i1, i2] := fun hm => hDf (W.sub _ hm)
  have hCw : H2.objs.size ∉ [z, TO, i1, i2] := fun hm => hCf (W.sub _ hm)
  have old : ∀ b o, s₂.heap.get? b = some o → h₁.get? b = some o := fun b o e => hsb₁.extBut b o (below b (Heap.lt_size e)).1 (Heap.get?_push_of_some _ (hH2 ▸ Heap.get?_push_of_some _ e))
  have hacc : h₁.get? s₂.heap.objs.size = some (lst []) := hsb₁.extBut _ _ hDC (Heap.get?_push_of_some _ (hH2 ▸ Heap.get?_push_size _ rfl))
  have hst₁ := W.frame 0 s₂.heap h₁ ⟨hz, hTI, hTO, hi1, hi2, hl1, hl2⟩ fun b _ o e => old b o e
  have fresh : ∀ a, s₂.heap.objs.size ≤ a → s₂.heap.get? a = none := fun a ha => by
    cases e : s₂.heap.get? a with
    | none => rfl
    | some o' => exact absurd (Heap.lt_size e) (Nat.not_lt.mpr ha)
  have fresh₀ : ∀ a, s₂.heap.objs.size ≤ a → h₀.get? a = none := fun a ha => by
    cases e : h₀.get? a with
    | none => rfl
    | some o' => have := F.keep a o' e; rw [fresh a ha] at this; cases this
  have hD₀ : h₀.get? s₂.heap.objs.size = none := fresh₀ _ (Nat.le_refl _)
  have hC₀ : h₀.get? H2.objs.size = none := fresh₀ _ (by rw [hC]; exact Nat.le_succ _)
  have hLlt : L < s₂.heap.objs.size := F.ns.lt
  have hDL : s₂.heap.objs.size ≠ L := Ne.symm (below L hLlt).2
  have hCL : H2.objs.size ≠ L := Ne.symm (below L hLlt).1
  have offC : ∀ p ∈ news, p.1 ≠ H2.objs.size := fun p hp => (below _ (Heap.lt_size (N p hp).1)).1
  have offD : ∀ p ∈ news, p.1 ≠ s₂.heap.objs.size := fun p hp => (below _ (Heap.lt_size (N p hp).1)).2
  have off1 : Off1 s₂.heap.objs.size news := (Off3.of (I := s₂.heap.objs.size) (C := s₂.heap.objs.size) fun p hp => ⟨offD p hp, offD p hp, offD p hp⟩).one
  have loop : ∀ s₃ : Shared, s₃ = { s₂ with heap := h₁, toks := s₂.toks + ([] : List (Str × Value)).length } →
      codeAny (model prog w) A (.compLoop (.ListComp elt [⟨.Tuple [.Name x px, .Name x₂ px₂] kk tp, iter, [], 0⟩] scope pos) 0 (.ref z) (.ref s₂.heap.objs.size) (compEnvC scope cl H2.objs.size env))
        (RR (.ref s₂.heap.objs.size) H2.objs.size) s₃ := by
    rintro s₃ rfl
    refine kcp_loop
      (fun k s' => ∃ h' tk i us m', s' = { s₂ with heap := h', toks := tk } ∧ i ≤ xs.length ∧ k = xs.length + 1 - i ∧ us.length = i ∧ (∀ j y, us[j]? = some y → Y j y) ∧
        (IsZip h' z TI TO .none ∧ IsPair h' TI (.ref i1) (.ref i2) ∧ (∃ a b, IsPair h' TO a b) ∧ h'.IsListIter i1 l1 i ∧ h'.IsListIter i2 l2 i ∧ h'.IsList l1 xs.toArray ∧ h'.IsList l2 ys.toArray) ∧
        Fr h₀ L h' m ∧ h'.Ns H2.objs.size m' ∧ News h₀ L h' ((s₂.heap.objs.size, lst us) :: news)) ?_ (xs.length + 1)
      ⟨h₁, _, 0, [], _, rfl, Nat.zero_le _, rfl, rfl, (fun j y e => by simp at e), hst₁, F.keeps old, hns₁, fun p hp => ?_⟩
    · rintro k s' ⟨h', tk, i, us, m', rfl, hi, rfl, hul, hY, hst', F', hn', N'⟩
      by_cases hlt : i < xs.length
      · refine W.item i _ _ _ hlt hst' fun T vals h₂ tk₂ hPv _ hT hMid hk₂ => ?_
        obtain ⟨a, b, hxa, hyb, rfl⟩ := hPv
        refine W.go _ _ _ i T _ _ _ hMid fun h₃ hst₃ hk₃ => ?_
        have hT₃ : h₃.IsTuple T #[a, b] := hT.at fun o e => hk₃ T o (W.apart i T _ hMid) e
        have hn₂ : h₂.Ns H2.objs.size m' := hn'.at' fun o e => hk₂ _ o hCw e
        have hn₃ : h₃.Ns H2.objs.size m' := hn₂.at' fun o e => hk₃ _ o hCw e
        have F₂ : Fr h₀ L h₂ m := fr_wr F' hk₂ hLw h0w
        have F₃ : Fr h₀ L h₃ m := fr_wr F₂ hk₃ hLw h0w
        have N₃ : News h₀ L h₃ ((s₂.heap.objs.size, lst us) :: news) := fun p hp => by
          have hw : p.1 ∉ [z, TO, i1, i2] := by
            rcases List.mem_cons.mp hp with rfl | hp
            · exact hDw
            · exact offw p hp
          exact ⟨hk₃ _ _ hw (hk₂ _ _ hw (N' p hp).1), (N' p hp).2⟩
        refine kcp_assign hh hT₃ (lookup_relabel_local hx) (lookup_relabel_local hx₂) (by simp [compEnvC, relabel, hkind]) hn₃ fun h₄ tk₄ hn₄ hk₄ => ?_
        have hst₄ := W.frame (i + 1) _ h₄ hst₃ fun c hc o e => hk₄ c o (fun q => hCf (by have q' : c = H2.objs.size := q; rw [← q']; exact hc)) e
        have F₄ : Fr h₀ L h₄ m := fr_wr (wr := [H2.objs.size]) F₃ (fun c o hc e => hk₄ c o (fun q => hc (List.mem_singleton.mpr q)) e) (by simpa using Ne.symm hCL) (fun c hc => by rw [List.mem_singleton.mp hc]; exact hC₀)
        obtain ⟨oC, heC, hoC⟩ := ns_obj hn₄
        obtain ⟨gz, gTI, ⟨ta, tb, gTO⟩, ⟨o1, g1, g1c, g1d⟩, ⟨o2, g2, g2c, g2d⟩, gl1, gl2⟩ := hst₄
        have N₄ : News h₀ L h₄ ((z, _) :: (TI, _) :: (TO, _) :: (i1, o1) :: (i2, o2) :: (H2.objs.size, oC) :: (s₂.heap.objs.size, lst us) :: news) := fun p hp => by
          rcases List.mem_cons.mp hp with rfl | hp
          · exact ⟨gz, hL5 _ (by simp)⟩
          rcases List.mem_cons.mp hp with rfl | hp
          · exact ⟨gTI, hL5 _ (by simp)⟩
          rcases List.mem_cons.mp hp with rfl | hp
          · exact ⟨gTO, hL5 _ (by simp)⟩
          rcases List.mem_cons.mp hp with rfl | hp
          · exact ⟨g1, hL5 _ (by simp)⟩
          rcases List.mem_cons.mp hp with rfl | hp
          · exact ⟨g2, hL5 _ (by simp)⟩
          rcases List.mem_cons.mp hp with rfl | hp
          · exact ⟨heC, hCL, hC₀⟩
          refine ⟨hk₄ _ _ ?_ (N₃ p hp).1, (N₃ p hp).2⟩
          rcases List.mem_cons.mp hp with rfl | hp
          · exact hDC
          · exact offC p hp
        refine helt i a b _ _ _ o1 o2 H2.objs.size oC s₂.heap.objs.size us _ h₄ _ _ _ (by simpa using hxa) (by simpa using hyb) hoC (by simp [hxx]) (by simp) F₄ N₄ fun y h₅ tk₅ hYy F₅ N₅ => ?_
        have st₅ := W.frame (i + 1) h₄ h₅ ⟨gz, gTI, ⟨ta, tb, gTO⟩, ⟨o1, g1, g1c, g1d⟩, ⟨o2, g2, g2c, g2d⟩, gl1, gl2⟩ fun c hc o e => by
          have same : ∀ {q : Addr × Obj}, q ∈ ((z, _) :: (TI, _) :: (TO, _) :: (i1, o1) :: (i2, o2) :: (H2.objs.size, oC) :: (s₂.heap.objs.size, lst us) :: news) → q.1 = c → h₅.get? c = some o := fun {q} hq hqc => by
            have e4 := (N₄ q hq).1
            rw [hqc, e] at e4
            rw [← hqc, Option.some.inj e4]
            exact (N₅ q hq).1
          simp only [List.mem_cons, List.not_mem_nil, or_false] at hc
          rcases hc with rfl | rfl | rfl | rfl | rfl | rfl | rfl
          · exact same (.head _) rfl
          · exact same (.tail _ (.head _)) rfl
          · exact same (.tail _ (.tail _ (.head _))) rfl
          · exact same (.tail _ (.tail _ (.tail _ (.head _)))) rfl
          · exact same (.tail _ (.tail _ (.tail _ (.tail _ (.head _))))) rfl
          · exact same (.tail _ (.tail _ (.tail _ (.tail _ (.tail _ (.tail _ (.tail _ hm1))))))) rfl
          · exact same (.tail _ (.tail _ (.tail _ (.tail _ (.tail _ (.tail _ (.tail _ hm2))))))) rfl
        have zC := (N₅ (H2.objs.size, oC) (.tail _ (.tail _ (.tail _ (.tail _ (.tail _ (.head _))))))).1
        have zD := (N₅ (s₂.heap.objs.size, lst us) (.tail _ (.tail _ (.tail _ (.tail _ (.tail _ (.tail _ (.head _)))))))).1
        have N₅' : News h₀ L h₅ news := fun p hp => N₅ p (.tail _ (.tail _ (.tail _ (.tail _ (.tail _ (.tail _ (.tail _ hp)))))))
        refine append_at (hsz := by show us.toArray.size ≤ sizeLine; rw [List.size_toArray, hul]; exact Nat.le_trans hi hsz) zD fun h₆ hs₆ hD₆ => ?_
        refine ⟨xs.length + 1 - (i + 1), by omega, h₆, tk₅, i + 1, us ++ [y], _, rfl, hlt, rfl, by rw [List.length_append, List.length_singleton, hul], ?_, W.frame (i + 1) h₅ h₆ st₅ fun b hb o e => hs₆.extBut b o (fun q => hDf (q ▸ hb)) e, F₅.change hs₆ hDL hD₀,
          (hoC.ns zC).sameBut hs₆ (Ne.symm hDC), fun p hp => ?_⟩
        · intro j v hj
          rw [List.getElem?_append] at hj
          split at hj
          · exact hY j v hj
          · rename_i hjn
            rw [List.getElem?_singleton] at hj
            split at hj
            · rename_i hj0
              cases hj
              have : j = i := by omega
              rw [this]
              exact hYy
            · cases hj
        · rcases List.mem_cons.mp hp with rfl | hp
          · exact ⟨hD₆.trans (congrArg some (lst_snoc us y)), hDL, hD₀⟩
          · exact ⟨hs₆.extBut _ _ (offD p hp) (N₅' p hp).1, (N₅' p hp).2⟩
      · obtain rfl : i = xs.length := Nat.le_antisymm hi (Nat.not_lt.mp hlt)
        refine W.done _ _ _ hst' fun h₂ tk₂ hk₂ => ?_
        refine hRR _ _ h₂ tk₂ _ us (fr_wr F' hk₂ hLw h0w) (fun p hp => ?_) off1 (hn'.at' fun o e => hk₂ _ o hCw e) hC₀ hD₀ hCL hDL (Ne.symm hDC) offC hul hY
        have hw : p.1 ∉ [z, TO, i1, i2] := by
          rcases List.mem_cons.mp hp with rfl | hp
          · exact hDw
          · exact offw p hp
        exact ⟨hk₂ _ _ hw (N' p hp).1, (N' p hp).2⟩
    · rcases List.mem_cons.mp hp with rfl | hp
      · exact ⟨hacc, hDL, hD₀⟩
      · exact ⟨old _ _ (N p hp).1, (N p hp).2⟩
  exact codeAny_compStart_list (loop _ rfl) (W.self 0 _ _ _ hst₁ (loop _ rfl))
end
end
end Mine
namespace Mine
section
open PySem PySem.W PySem.Spec PySem.Calls PyProof.Rows PyProof.Rows.LCg
section
variable {prog : Program} {w : World} {A : Around} {E : Value → Shared → Prop} {s : Shared} {h₀ : Heap} {L : Addr} {m : Str → Option Value} {env : Env}
def SrcZ (prog : Program) (w : World) (A : Around) (h₀ : Heap) (L : Addr) (m : Str → Option Value) (env : Env) (elt : PySem.Expr) (x x₂ : Str) (scope : Scope) (cl : List (Str × Addr)) (y : Str) (Q : Flow → Shared → Prop) (xv : Value) (s₂ : Shared) : Prop :=
  ∃ (z TI TO i1 i2 l1 l2 : Addr) (lo1 lo2 : Obj) (xs ys : List Value) (nn1 nn2 : Nat) (news : List (Addr × Obj)) (Y : Nat → Value → Prop), xv = .ref z ∧ A.handled = none ∧ ZipApart z TI TO i1 i2 l1 l2 ∧ xs.length ≤ sizeLine ∧ ys.length = xs.length ∧
    (IsZip s₂.heap z TI TO .none ∧ IsPair s₂.heap TI (.ref i1) (.ref i2) ∧ (∃ a b, IsPair s₂.heap TO a b) ∧ s₂.heap.IsListIter i1 l1 0 ∧ s₂.heap.IsListIter i2 l2 0) ∧
    Fr h₀ L s₂.heap m ∧ News h₀ L s₂.heap news ∧ ((l1, lo1) ∈ news ∧ lo1.cls = .type "list" ∧ lo1.data = .seq xs.toArray nn1) ∧ ((l2, lo2) ∈ news ∧ lo2.cls = .type "list" ∧ lo2.data = .seq ys.toArray nn2) ∧
    (∀ b ∈ [z, TI, TO, i1, i2], b ≠ L ∧ h₀.get? b = none) ∧ (∀ p ∈ news, p.1 ∉ [z, TI, TO, i1, i2]) ∧
    (∀ i a b oz oTI oTO o1 o2 C oC D us m₂ h tk (E' : Value → Shared → Prop) (Q' : Value → Shared → Prop), xs[i]? = some a → ys[i]? = some b → NsObj oC m₂ → m₂ x = some a → m₂ x₂ = some b → Fr h₀ L h m →
      News h₀ L h ((z, oz) :: (TI, oTI) :: (TO, oTO) :: (i1, o1) :: (i2, o2) :: (C, oC) :: (D, lst us) :: news) →
      (∀ y h' tk', Y i y → Fr h₀ L h' m → News h₀ L h' ((z, oz) :: (TI, oTI) :: (TO, oTO) :: (i1, o1) :: (i2, o2) :: (C, oC) :: (D, lst us) :: news) → Q' y { s₂ with heap := h', toks := tk' }) →
      wpAny (model prog w) A (eval elt (compEnvC scope cl C env)) Q' E' { s₂ with heap := h, toks := tk }) ∧
    (∀ us D h tk, us.length = xs.length → (∀ i y, us[i]? = some y → Y i y) → Fr h₀ L h (fun z' => if z' = y then some (.ref D) else m z') → News h₀ L h ((D, lst us) :: news) → Off1 D news → Q .next { s₂ with heap := h, toks := tk })

theorem Assign_ListComp_Z {elt iter : PySem.Expr} {x x₂ y : Str} {px px₂ tp py : Pos} {tk : Nat} {scope : Scope} {cl : List (Str × Addr)} {pos spos : Pos} {Q : Flow → Shared → Prop} (F₀ : Fr h₀ L s.heap m) (hLe : env.locals = L)
    (hsw : swapsWith (.ListComp elt [⟨.Tuple [.Name x px, .Name x₂ px₂] tk tp, iter, [], 0⟩] scope pos) (some (.Name y py)) spos.line env = pure true)
    (hclos : closureFor scope env = pure cl) (hcell : ∀ z ∈ scope.names, z.2 ≠ .cell) (hkind : scope.kind = .function)
    (hnames : ∀ z ∈ scope.names, z.2 = .local → scope.names.lookup z.1 = some .local) (hx : scope.names.lookup x = some .local) (hx₂ : scope.names.lookup x₂ = some .local) (hxx : x ≠ x₂)
    (hy : env.kindOf y = some .local) (hp : (env.scope.kind == .class || (env.scope.kind == .module && env.locals != env.globals)) = false)
    (h : wpAny (model prog w) A (eval iter env) (SrcZ prog w A h₀ L m env elt x x₂ scope cl y Q) E s)
    (hs : ∀ x, foldedSetIterable iter env x = pure x := by intro _; rfl) :
    wpAny (model prog w) A (exec (.Assign [.Name y py] (.ListComp elt [⟨.Tuple [.Name x px, .Name x₂ px₂] tk tp, iter, [], 0⟩] scope pos) spos) env) Q E s := by
  subst hLe
  rw [exec_Assign_Name_used _ _ _ _ hsw]
  refine wpAny_bind (wpAny_standAt (wpAny_bind ?_))
  show wpAny _ A (do let _ ← comprehension (.ListComp elt [⟨.Tuple [.Name x px, .Name x₂ px₂] tk tp, iter, [], 0⟩] scope pos) scope env _ (newList []) false (eval iter env) (some (assign (.Name y py) env))) _ _ s
  refine wpAny_bind (wpAny_mono (wpAny_comprehension_free (use := some (assign (.Name y py) env)) (Q := fun _ s' => Q .next s') rfl hs hclos hkind hnames
    (wpAny_mono h (fun xv s₁ h₁ => ?_) fun _ _ e => e)) (fun _ s' hq => wpAny_pure (wpAny_pure hq)) fun _ _ e => e)
  obtain ⟨z, TI, TO, i1, i2, l1, l2, lo1, lo2, xs, ys, nn1, nn2, news, Y, rfl, hh, D5, hsz, hxy, ⟨hz, hTI, hTO, hi1, hi2⟩, F, N, ⟨m1, c1, d1⟩, ⟨m2, c2, d2⟩, hL5, off5, helt, fin⟩ := h₁
  refine wpAny_pyIter_zip hz ?_
  refine block_Z (Y := Y) hh D5 hsz hxy hcell hkind hx hx₂ hxx hz hTI hTO hi1 hi2 F N m1 c1 d1 m2 c2 d2 hL5 off5 helt ?_
  intro D C h' tk m' us F' N' o1 hn hC₀ hD₀ hCL hDL hCD offC hul hY
  show wpAny _ A (assign (.Name y py) env (.ref D)) _ _ _
  refine wpAny_assign_Name (wpAny_storeName_local hy F'.ns (fun h₂ hn₂ hs₂ => ?_) hp)
  have hL₀ : h₀.get? env.locals = none := Heap.get?_none_of_le F'.above
  have F₂ : Fr h₀ env.locals h₂ (fun z => if z = y then some (.ref D) else m z) := ⟨hn₂, fun b o e => hs₂.extBut b o (fun q => by rw [q, hL₀] at e; cases e) (F'.keep b o e), F'.above⟩
  refine ⟨m', hn.sameBut hs₂ hCL, fun h'' hs'' => fin us D h'' _ hul hY (F₂.change hs'' hCL hC₀) (fun p hp => ?_) o1⟩
  have zz : h₂.get? p.1 = some p.2 := hs₂.extBut _ _ (N' p hp).2.1 (N' p hp).1
  refine ⟨hs''.extBut _ _ ?_ zz, (N' p hp).2⟩
  rcases List.mem_cons.mp hp with rfl | hp
  · exact Ne.symm hCD
  · exact offC p hp

theorem intsAre_get : ∀ {us : List Value} {vs : List Int}, IntsAre us vs → ∀ {i : Nat} {v : Value}, us[i]? = some v → ∃ a t, v = .int a t ∧ vs[i]? = some a
  | _, _, .nil, i, v, e => by simp at e
  | _, _, .cons n t r, 0, v, e => ⟨n, t, by simpa using e.symm, by simp⟩
  | _, _, .cons n t r, i + 1, v, e => by
    obtain ⟨a, u, h1, h2⟩ := intsAre_get r (i := i) (v := v) (by simpa using e)
    exact ⟨a, u, h1, by simpa using h2⟩
theorem intsAre_of : ∀ {us : List Value} {vs : List Int}, us.length = vs.length → (∀ (i : Nat) (v : Value), us[i]? = some v → ∃ a t, v = .int a t ∧ vs[i]? = some a) → IntsAre us vs
  | [], [], _, _ => .nil
  | [], _ :: _, h, _ => by simp at h
  | _ :: _, [], h, _ => by simp at h
  | u :: us, v :: vs, h, k => by
    obtain ⟨a, t, rfl, e⟩ := k 0 u (by simp)
    have : v = a := by simpa using e
    subst this
    exact .cons _ _ (intsAre_of (by simpa using h) fun i w hw => by simpa using k (i + 1) w (by simpa using hw))

def EltEnd (h₀ : Heap) (L : Addr) (m : Str → Option Value) (s : Shared) (v : Int) (led : List (Addr × Obj)) (Q' : Value → Shared → Prop) : Prop :=
  ∀ (t : Tok) (h' : Heap) (tk' : Nat), Fr h₀ L h' m → News h₀ L h' led → Q' (.int v t) { s with heap := h', toks := tk' }
theorem zip_src {elt : PySem.Expr} {x x₂ y : Str} {scope : Scope} {cl : List (Str × Addr)} {Q : Flow → Shared → Prop} {l1 l2 : Addr} {lo1 lo2 : Obj} {us1 us2 : List Value} {vs1 vs2 : List Int} {nn1 nn2 : Nat} {news : List (Addr × Obj)} (f : Int → Int → Int)
    (hh : A.handled = none) (F : Fr h₀ L s.heap m) (N : News h₀ L s.heap news) (hm1 : (l1, lo1) ∈ news) (hc1 : lo1.cls = .type "list") (hd1 : lo1.data = .seq us1.toArray nn1) (hm2 : (l2, lo2) ∈ news) (hc2 : lo2.cls = .type "list") (hd2 : lo2.data = .seq us2.toArray nn2)
    (hI1 : IntsAre us1 vs1) (hI2 : IntsAre us2 vs2) (hlen : vs2.length = vs1.length) (hsz : vs1.length ≤ sizeLine)
    (helt : ∀ (a b : Int) ta tb oz oTI oTO o1 o2 z TI TO i1 i2 C oC D us m₂ h tk (E' : Value → Shared → Prop) (Q' : Value → Shared → Prop), NsObj oC m₂ → m₂ x = some (.int a ta) → m₂ x₂ = some (.int b tb) → Fr h₀ L h m →
      News h₀ L h ((z, oz) :: (TI, oTI) :: (TO, oTO) :: (i1, o1) :: (i2, o2) :: (C, oC) :: (D, lst us) :: news) →
      EltEnd h₀ L m s (f a b) ((z, oz) :: (TI, oTI) :: (TO, oTO) :: (i1, o1) :: (i2, o2) :: (C, oC) :: (D, lst us) :: news) Q' →
      wpAny (model prog w) A (eval elt (compEnvC scope cl C env)) Q' E' { s with heap := h, toks := tk })
    (fin : ∀ us, IntsAre us (List.zipWith f vs1 vs2) → FinA h₀ L m s y Q us news) :
    wpAny (model prog w) A (call (.type "zip") [.ref l1, .ref l2]) (SrcZ prog w A h₀ L m env elt x x₂ scope cl y Q) E s := by
  have hl1 : s.heap.IsList l1 us1.toArray := ⟨lo1, (N _ hm1).1, hc1, nn1, hd1⟩
  have hl2 : s.heap.IsList l2 us2.toArray := ⟨lo2, (N _ hm2).1, hc2, nn2, hd2⟩
  have hlt1 : l1 < s.heap.objs.size := Heap.lt_size (N _ hm1).1
  have hlt2 : l2 < s.heap.objs.size := Heap.lt_size (N _ hm2).1
  have hLs : L < s.heap.objs.size := F.ns.lt
  have e1 := hI1.length
  have e2 := hI2.length
  refine call_zip_2 hl1 hl2 fun h' hz hTI hTO hi1 hi2 hsz' hk => ?_
  have new : ∀ b ∈ [s.heap.objs.size + 4, s.heap.objs.size + 2, s.heap.objs.size + 3, s.heap.objs.size, s.heap.objs.size + 1], s.heap.objs.size ≤ b := by
    intro b hb
    simp only [List.mem_cons, List.not_mem_nil, or_false] at hb
    omega
  refine ⟨_, _, _, _, _, l1, l2, lo1, lo2, us1, us2, nn1, nn2, news, fun i y => ∃ a b t, vs1[i]? = some a ∧ vs2[i]? = some b ∧ y = .int (f a b) t, rfl, hh, ktu_apart _ _ _ hlt1 hlt2, by omega, by omega, ⟨hz, hTI, ⟨_, _, hTO⟩, hi1, hi2⟩, F.keeps hk, N.grown hk, ⟨hm1, hc1, hd1⟩, ⟨hm2, hc2, hd2⟩, ?_, ?_, ?_, ?_⟩
  · intro b hb
    have hb' := new b hb
    refine ⟨fun q => ?_, ktu_new F hb'⟩
    rw [q] at hb'
    exact absurd hLs (Nat.not_lt.mpr hb')
  · intro p hp hm
    exact absurd (Heap.lt_size (N p hp).1) (Nat.not_lt.mpr (new _ hm))
  · intro i a b oz oTI oTO o1 o2 C oC D us m₂ h tk E' Q' ha hb hn hxa hxb F' N' hq
    obtain ⟨a', ta, rfl, ha'⟩ := intsAre_get hI1 ha
    obtain ⟨b', tb, rfl, hb'⟩ := intsAre_get hI2 hb
    exact helt a' b' ta tb oz oTI oTO o1 o2 _ _ _ _ _ C oC D us m₂ h tk E' Q' hn hxa hxb F' N' fun t h'' tk'' F'' N'' => hq _ h'' tk'' ⟨a', b', t, ha', hb', rfl⟩ F'' N''
  · intro us D h tk hul hY F' N' o1
    refine fin us (intsAre_of (by rw [hul, List.length_zipWith]; omega) fun i v hv => ?_) D h tk F' N' o1
    obtain ⟨a, b, t, ha, hb, rfl⟩ := hY i v hv
    exact ⟨f a b, t, rfl, by rw [List.getElem?_zipWith, ha, hb]⟩
end
end
end Mine
namespace Mine
section
local macro_rules | `(tactic| k_room) => `(tactic| ((try simp only [depth_under_make, depth_under_kw, depth_in1, depth_deeper, depth_caller]); simp only [recursionLimit]; omega))
local macro_rules | `(tactic| walk_at "exec Assign cons ListComp") => `(tactic| (k_here; (with_reducible show wpAny _ _ (exec (Stmt.Assign _ (Expr.ListComp _ [⟨Expr.Tuple _ _ _, _, _, _⟩] _ _) _) _) _ _ _); k_dflt (refine Assign_ListComp_Z (F₀ := by k_asm) (by rfl) (by with_unfolding_all rfl) (by with_unfolding_all rfl) (by decide) (by rfl) (by decide) (by rfl) (by rfl) (by decide) (by rfl) (by rfl) ?_)))
local macro_rules | `(tactic| walk_at "call type:zip") => `(tactic| (k_here; k_dflt (
  refine' zip_src (fun a b => (a + b).fmod 3329) ?hh ?F ?N ?m1 ?c1 ?d1 ?m2 ?c2 ?d2 ?I1 ?I2 ?len ?sz ?elt ?fin;
  (case hh => exact rfl); (case F => k_asm); (case N => k_asm); (case m1 => k_mem); (case c1 => exact rfl); (case d1 => exact rfl); (case m2 => k_mem); (case c2 => exact rfl); (case d2 => exact rfl);
  (case I1 => assumption); (case I2 => assumption); (case len => omega); (case sz => (rw [sizeLine_eq]; omega));
  (intro a' b' ta' tb' oz' oTI' oTO' o1' o2' z' TI' TO' i1' i2' C' oC' D' us' m' h' tk' E' Q' hC' hx' hy' F' N' hq'); (try k_fold); rotate_left; (intro us' hI'); rotate_left)))
theorem sub_am {g h : Heap} {L : Addr} {l c : Addr × Obj} {r : List (Addr × Obj)} (N : News g L h (l :: c :: r)) : News g L h (l :: r) := fun p hp => N p (by
  rcases List.mem_cons.mp hp with rfl | hp
  · exact .head _
  · exact .tail _ (.tail _ hp))
theorem addm {w : World} {A₀ : Around} {d u : Nat} {gua : Option (List Code)} {outer : List Env} {base h₀ : Heap} {L gl bi : Addr} {nms : List (Str × NameKind)} {ig ic : Bool} {mo : List (Str × Const)} {ce : List (Str × Addr)} {qu : Str} {fu : Option Addr} {cd : Value}
    {s : Shared} {m mg mb : Str → Option Value} {loose : List Str} {mean : ExcName → Option Value} {rest : List (Addr × Obj)}
    {x dx z n p1 d1 l1 p2 d2 l2 n1 n2 : Nat} {t1 t2 t3 t4 t5 t6 t8 a1 a2 b1 b2 : Tok} {t7 : Int} {us1 us2 : List Value} {vs1 vs2 : List Int}
    {Q E : Value → Shared → Prop}
    (B : Below A₀ base outer h₀) (F : Fr h₀ L s.heap m) (X : (hd.heap_39 w.params).In h₀)
    (N : News h₀ L s.heap ((p1, instObj 426 d1) :: (d1, polyDict w x l1 a1 a2) :: (l1, W.listOf us1.toArray n1) :: (p2, instObj 426 d2) :: (d2, polyDict w x l2 b1 b2) :: (l2, W.listOf us2.toArray n2) ::
      (x, instObj 282 dx) :: (dx, ringDict w z t1 t2 t3 t4 t5 t6 t7 t8 n) :: rest))
    (T : Top hdView loose mean mg mb h₀) (hdep : d ≤ 380) (hI1 : IntsAre us1 vs1) (hlen1 : vs1.length = 256) (hI2 : IntsAre us2 vs2) (hlen2 : vs2.length = 256)
    (h : ∀ l ys nl h' tk', IntsAre ys (List.zipWith (fun a b => (a + b).fmod 3329) vs1 vs2) → LCg.Off1 l ((p1, instObj 426 d1) :: (d1, polyDict w x l1 a1 a2) :: (l1, W.listOf us1.toArray n1) :: (p2, instObj 426 d2) :: (d2, polyDict w x l2 b1 b2) :: (l2, W.listOf us2.toArray n2) :: (x, instObj 282 dx) :: (dx, ringDict w z t1 t2 t3 t4 t5 t6 t7 t8 n) :: rest) → Fr h₀ L h' m →
      News h₀ L h' ((l, W.listOf ys.toArray nl) :: (p1, instObj 426 d1) :: (d1, polyDict w x l1 a1 a2) :: (l1, W.listOf us1.toArray n1) :: (p2, instObj 426 d2) :: (d2, polyDict w x l2 b1 b2) :: (l2, W.listOf us2.toArray n2) :: (x, instObj 282 dx) :: (dx, ringDict w z t1 t2 t3 t4 t5 t6 t7 t8 n) :: rest) → Q (.ref l) { s with heap := h', toks := tk' }) :
    wpAny (model PySem.Challenge.rw_yi0044_01.row.prog w) { handled := none, depth := d, frames := some (Env.mk { kind := .function, names := nms, isGenerator := ig, isCoroutine := ic, more := mo } L gl ce qu fu cd (some L) bi :: outer), guards := gua, units := u }
      (call (.ref 132) [.ref p1, .ref p2] []) Q E s := by
  revert X
  k_fill
  intro X
  have hul1 := hI1.length
  have hul2 := hI2.length
  k_with_none
  w_strict k_steps
  · have q := ‹EltEnd _ _ _ _ _ _ _›
    exact q _ _ _ (by assumption) (by assumption)
  · rename_i kN _ _
    have N2 := sub_am kN
    have q := ‹_ ∧ _ ∧ _ ∧ _ ∧ _ ∧ _ ∧ _ ∧ _ ∧ _ ∧ LCg.Off1 _ rest›
    refine' h _ _ _ _ _ ?I ?o ?F ?N
    case N => exact N2
    case F => assumption
    case I => assumption
    case o => exact q.2
end
end Mine
namespace Mine
section
theorem callWith_KWI {M : Model} {A : Around} {E : Value → Shared → Prop} {s : Shared} {K : Frag} {env : Env} {pos : Pos} {x C : Addr} {ox : Obj} {od : Option Obj} {first : List Value} {Q : Value → Shared → Prop} {e : Expr} {rest : List Expr} {kws : List Keyword}
    (_X : K.In s.heap) (_I : InstAt s.heap x ox C od) (hd : ox.data = .plain) (hall : (backToKw pos (keywordEach kws env)).all (·.1.isSome) = true)
    (h : wpAny M A (spliced (backTo pos (starEach (e :: rest) env))) (fun vs s₁ => wpAny M A (evalAll ((backToKw pos (keywordEach kws env)).map (·.2)))
      (fun ks s₂ => kco_P K x C ox od s₂.heap ∧ wpAny M A (call (.ref x) (first ++ vs) (((backToKw pos (keywordEach kws env)).filterMap (·.1)).zip ks)) Q E s₂) E s₁) E s)
    (hplain : ((backTo pos (starEach (e :: rest) env)).any (·.1) || (backToKw pos (keywordEach kws env)).any (·.1.isNone)) = false := by rfl) (he : starEach (e :: rest) env = (false, eval e env) :: starEach rest env := by rfl) :
    wpAny M A (callWith pos (.ref x) first (backTo pos (starEach (e :: rest) env)) (backToKw pos (keywordEach kws env))) Q E s :=
  kco_callWith_of hplain hd (evalArgs_kw2 hall h he)
theorem rot_mk {g h : Heap} {L : Addr} {l a1 a2 a3 a4 a5 a6 x dx : Addr × Obj} {r : List (Addr × Obj)} (N : News g L h (l :: a1 :: a2 :: a3 :: a4 :: a5 :: a6 :: x :: dx :: r)) : News g L h (l :: x :: dx :: a1 :: a2 :: a3 :: a4 :: a5 :: a6 :: r) := fun p hp => N p (by
  simp only [List.mem_cons] at hp ⊢
  rcases hp with h | h | h | h | h | h | h | h | h | h <;> simp [h])
theorem rot_back {g h : Heap} {L : Addr} {p dp l a1 a2 a3 a4 a5 a6 x dx : Addr × Obj} {r : List (Addr × Obj)} (N : News g L h (p :: dp :: l :: x :: dx :: a1 :: a2 :: a3 :: a4 :: a5 :: a6 :: r)) : News g L h (p :: dp :: l :: a1 :: a2 :: a3 :: a4 :: a5 :: a6 :: x :: dx :: r) := fun p hp => N p (by
  simp only [List.mem_cons] at hp ⊢
  rcases hp with h | h | h | h | h | h | h | h | h | h | h | h <;> simp [h])
local macro_rules | `(tactic| k_room) => `(tactic| ((try simp only [depth_under_make, depth_under_kw, depth_in1, depth_deeper, depth_caller]); simp only [recursionLimit]; omega))
local macro_rules | `(tactic| walk_at "callWith ref") => `(tactic| (k_here; kco_any "__call__"; kco_here; k_dflt (
  refine' callWith_KWI ?k1 ?k2 ?k3 ?k4 ?_; (case k1 => k_in); (case k2 => k_inst); (case k3 => rfl); (case k4 => exact rfl); k_whole)))
local macro_rules | `(tactic| walk_at "call ref") => `(tactic| (k_here; (first | (with_reducible show wpAny _ _ (call (Value.ref 132) _ _) _ _ _) | (with_reducible show wpAny _ _ (call (Value.ref (132 : Nat)) _ _) _ _ _)); k_dflt (
  refine' addm ?B ?F ?X ?N ?T ?dep ?I1 ?l1 ?I2 ?l2 ?_; (case B => k_asm); (case F => k_asm); (case X => k_asm); (case N => k_asm); (case T => k_asm);
  (case dep => (simp only [depth_under_make, depth_under_kw, depth_in1, depth_deeper, depth_caller]; omega)); (case I1 => k_asm); (case l1 => assumption); (case I2 => k_asm); (case l2 => assumption);
  k_whole; intro l' ys' nl' h' tk' hI' ho' F' N'; (try k_sweep))))
local macro_rules | `(tactic| walk_at "call ref") => `(tactic| (k_here; (with_reducible show wpAny _ _ (call (Value.ref _) _ (List.zip _ _)) _ _ _); k_dflt (
  refine' mk ?B ?F ?X ?N ?T ?dep ?I ?len ?_; (case B => k_asm); (case F => k_asm); (case X => k_asm); (case N => first | k_asm | exact rot_mk (by k_asm)); (case T => k_asm);
  (case dep => (simp only [depth_under_make, depth_under_kw, depth_in1, depth_deeper, depth_caller]; omega)); (case I => k_asm); (case len => first | assumption | (rw [List.length_zipWith]; omega));
  k_whole; intro p' dp' t1' t2' h' tk' hlt' hpp' F' N'; (try k_sweep))))
theorem padd {w : World} {A₀ : Around} {d u : Nat} {gua : Option (List Code)} {outer : List Env} {base h₀ : Heap} {L gl bi : Addr} {nms : List (Str × NameKind)} {ig ic : Bool} {mo : List (Str × Const)} {ce : List (Str × Addr)} {qu : Str} {fu : Option Addr} {cd : Value}
    {s : Shared} {m mg mb : Str → Option Value} {loose : List Str} {mean : ExcName → Option Value} {rest : List (Addr × Obj)}
    {x dx z n p1 d1 l1 p2 d2 l2 n1 n2 : Nat} {t1 t2 t3 t4 t5 t6 t8 a1 a2 b1 b2 : Tok} {t7 : Int} {us1 us2 : List Value} {vs1 vs2 : List Int}
    {Q E : Value → Shared → Prop}
    (B : Below A₀ base outer h₀) (F : Fr h₀ L s.heap m) (X : (hd.heap_39 w.params).In h₀)
    (N : News h₀ L s.heap ((p1, instObj 426 d1) :: (d1, polyDict w x l1 a1 a2) :: (l1, W.listOf us1.toArray n1) :: (p2, instObj 426 d2) :: (d2, polyDict w x l2 b1 b2) :: (l2, W.listOf us2.toArray n2) ::
      (x, instObj 282 dx) :: (dx, ringDict w z t1 t2 t3 t4 t5 t6 t7 t8 n) :: rest))
    (T : Top hdView loose mean mg mb h₀) (hdep : d ≤ 370) (hI1 : IntsAre us1 vs1) (hlen1 : vs1.length = 256) (hI2 : IntsAre us2 vs2) (hlen2 : vs2.length = 256)
    (h : ∀ p dp l ys nl t1' t2' h' tk', IntsAre ys (List.zipWith (fun a b => (a + b).fmod 3329) vs1 vs2) →
      LCg.Off1 l ((p1, instObj 426 d1) :: (d1, polyDict w x l1 a1 a2) :: (l1, W.listOf us1.toArray n1) :: (p2, instObj 426 d2) :: (d2, polyDict w x l2 b1 b2) :: (l2, W.listOf us2.toArray n2) :: (x, instObj 282 dx) :: (dx, ringDict w z t1 t2 t3 t4 t5 t6 t7 t8 n) :: rest) →
      AllLt dp ((l, W.listOf ys.toArray nl) :: (p1, instObj 426 d1) :: (d1, polyDict w x l1 a1 a2) :: (l1, W.listOf us1.toArray n1) :: (p2, instObj 426 d2) :: (d2, polyDict w x l2 b1 b2) :: (l2, W.listOf us2.toArray n2) :: (x, instObj 282 dx) :: (dx, ringDict w z t1 t2 t3 t4 t5 t6 t7 t8 n) :: rest) →
      @LT.lt Nat _ dp p → Fr h₀ L h' m →
      News h₀ L h' ((p, instObj 426 dp) :: (dp, polyDict w x l t1' t2') :: (l, W.listOf ys.toArray nl) :: (p1, instObj 426 d1) :: (d1, polyDict w x l1 a1 a2) :: (l1, W.listOf us1.toArray n1) :: (p2, instObj 426 d2) :: (d2, polyDict w x l2 b1 b2) :: (l2, W.listOf us2.toArray n2) :: (x, instObj 282 dx) :: (dx, ringDict w z t1 t2 t3 t4 t5 t6 t7 t8 n) :: rest) → Q (.ref p) { s with heap := h', toks := tk' }) :
    wpAny (model PySem.Challenge.rw_yi0044_01.row.prog w) { handled := none, depth := d, frames := some (Env.mk { kind := .function, names := nms, isGenerator := ig, isCoroutine := ic, more := mo } L gl ce qu fu cd (some L) bi :: outer), guards := gua, units := u }
      (binaryOp .Add (.ref p1) (.ref p2)) Q E s := by
  revert X
  k_fill
  intro X
  k_with_none
  w_strict k_steps
  rename_i hlt hpp F9 N9 kF kN _ _
  have N2 := rot_back kN
  refine' h _ _ _ _ _ _ _ _ _ ?I ?o ?q ?pp ?F ?N
  case N => exact N2
  case F => assumption
  case I => assumption
  case o => assumption
  case q =>
    have q := ‹AllLt _ _›
    obtain ⟨a, b, c, d, e, f, g, h, i, r⟩ := q
    exact ⟨a, d, e, f, g, h, i, b, c, r⟩
  case pp => assumption
end
end Mine
namespace Mine
section
local macro_rules | `(tactic| k_room) => `(tactic| ((try simp only [depth_under_make, depth_under_kw, depth_in1, depth_deeper, depth_caller]); simp only [recursionLimit]; omega))
local macro_rules | `(tactic| walk_at "exec Assign cons ListComp") => `(tactic| (k_here; (with_reducible show wpAny _ _ (exec (Stmt.Assign _ (Expr.ListComp _ [⟨Expr.Tuple _ _ _, _, _, _⟩] _ _) _) _) _ _ _); k_dflt (refine Assign_ListComp_Z (F₀ := by k_asm) (by rfl) (by with_unfolding_all rfl) (by with_unfolding_all rfl) (by decide) (by rfl) (by decide) (by rfl) (by rfl) (by decide) (by rfl) (by rfl) ?_)))
local macro_rules | `(tactic| walk_at "call type:zip") => `(tactic| (k_here; k_dflt (
  refine' zip_src (fun a b => (a - b).fmod 3329) ?hh ?F ?N ?m1 ?c1 ?d1 ?m2 ?c2 ?d2 ?I1 ?I2 ?len ?sz ?elt ?fin;
  (case hh => exact rfl); (case F => k_asm); (case N => k_asm); (case m1 => k_mem); (case c1 => exact rfl); (case d1 => exact rfl); (case m2 => k_mem); (case c2 => exact rfl); (case d2 => exact rfl);
  (case I1 => assumption); (case I2 => assumption); (case len => omega); (case sz => (rw [sizeLine_eq]; omega));
  (intro a' b' ta' tb' oz' oTI' oTO' o1' o2' z' TI' TO' i1' i2' C' oC' D' us' m' h' tk' E' Q' hC' hx' hy' F' N' hq'); (try k_fold); rotate_left; (intro us' hI'); rotate_left)))
theorem sub_am2 {g h : Heap} {L : Addr} {l c : Addr × Obj} {r : List (Addr × Obj)} (N : News g L h (l :: c :: r)) : News g L h (l :: r) := fun p hp => N p (by
  rcases List.mem_cons.mp hp with rfl | hp
  · exact .head _
  · exact .tail _ (.tail _ hp))
theorem subm {w : World} {A₀ : Around} {d u : Nat} {gua : Option (List Code)} {outer : List Env} {base h₀ : Heap} {L gl bi : Addr} {nms : List (Str × NameKind)} {ig ic : Bool} {mo : List (Str × Const)} {ce : List (Str × Addr)} {qu : Str} {fu : Option Addr} {cd : Value}
    {s : Shared} {m mg mb : Str → Option Value} {loose : List Str} {mean : ExcName → Option Value} {rest : List (Addr × Obj)}
    {x dx z n p1 d1 l1 p2 d2 l2 n1 n2 : Nat} {t1 t2 t3 t4 t5 t6 t8 a1 a2 b1 b2 : Tok} {t7 : Int} {us1 us2 : List Value} {vs1 vs2 : List Int}
    {Q E : Value → Shared → Prop}
    (B : Below A₀ base outer h₀) (F : Fr h₀ L s.heap m) (X : (hd.heap_39 w.params).In h₀)
    (N : News h₀ L s.heap ((p1, instObj 426 d1) :: (d1, polyDict w x l1 a1 a2) :: (l1, W.listOf us1.toArray n1) :: (p2, instObj 426 d2) :: (d2, polyDict w x l2 b1 b2) :: (l2, W.listOf us2.toArray n2) ::
      (x, instObj 282 dx) :: (dx, ringDict w z t1 t2 t3 t4 t5 t6 t7 t8 n) :: rest))
    (T : Top hdView loose mean mg mb h₀) (hdep : d ≤ 380) (hI1 : IntsAre us1 vs1) (hlen1 : vs1.length = 256) (hI2 : IntsAre us2 vs2) (hlen2 : vs2.length = 256)
    (h : ∀ l ys nl h' tk', IntsAre ys (List.zipWith (fun a b => (a - b).fmod 3329) vs1 vs2) → LCg.Off1 l ((p1, instObj 426 d1) :: (d1, polyDict w x l1 a1 a2) :: (l1, W.listOf us1.toArray n1) :: (p2, instObj 426 d2) :: (d2, polyDict w x l2 b1 b2) :: (l2, W.listOf us2.toArray n2) :: (x, instObj 282 dx) :: (dx, ringDict w z t1 t2 t3 t4 t5 t6 t7 t8 n) :: rest) → Fr h₀ L h' m →
      News h₀ L h' ((l, W.listOf ys.toArray nl) :: (p1, instObj 426 d1) :: (d1, polyDict w x l1 a1 a2) :: (l1, W.listOf us1.toArray n1) :: (p2, instObj 426 d2) :: (d2, polyDict w x l2 b1 b2) :: (l2, W.listOf us2.toArray n2) :: (x, instObj 282 dx) :: (dx, ringDict w z t1 t2 t3 t4 t5 t6 t7 t8 n) :: rest) → Q (.ref l) { s with heap := h', toks := tk' }) :
    wpAny (model PySem.Challenge.rw_yi0044_01.row.prog w) { handled := none, depth := d, frames := some (Env.mk { kind := .function, names := nms, isGenerator := ig, isCoroutine := ic, more := mo } L gl ce qu fu cd (some L) bi :: outer), guards := gua, units := u }
      (call (.ref 158) [.ref p1, .ref p2] []) Q E s := by
  revert X
  k_fill
  intro X
  have hul1 := hI1.length
  have hul2 := hI2.length
  k_with_none
  w_strict k_steps
  · have q := ‹EltEnd _ _ _ _ _ _ _›
    exact q _ _ _ (by assumption) (by assumption)
  · rename_i kN _ _
    have N2 := sub_am2 kN
    have q := ‹_ ∧ _ ∧ _ ∧ _ ∧ _ ∧ _ ∧ _ ∧ _ ∧ _ ∧ LCg.Off1 _ rest›
    refine' h _ _ _ _ _ ?I ?o ?F ?N
    case N => exact N2
    case F => assumption
    case I => assumption
    case o => exact q.2
end
end Mine
namespace Mine
section
local macro_rules | `(tactic| k_room) => `(tactic| ((try simp only [depth_under_make, depth_under_kw, depth_in1, depth_deeper, depth_caller]); simp only [recursionLimit]; omega))
local macro_rules | `(tactic| walk_at "callWith ref") => `(tactic| (k_here; kco_any "__call__"; kco_here; k_dflt (
  refine' callWith_KWI ?k1 ?k2 ?k3 ?k4 ?_; (case k1 => k_in); (case k2 => k_inst); (case k3 => rfl); (case k4 => exact rfl); k_whole)))
local macro_rules | `(tactic| walk_at "call ref") => `(tactic| (k_here; (first | (with_reducible show wpAny _ _ (call (Value.ref 158) _ _) _ _ _) | (with_reducible show wpAny _ _ (call (Value.ref (158 : Nat)) _ _) _ _ _)); k_dflt (
  refine' subm ?B ?F ?X ?N ?T ?dep ?I1 ?l1 ?I2 ?l2 ?_; (case B => k_asm); (case F => k_asm); (case X => k_asm); (case N => k_asm); (case T => k_asm);
  (case dep => (simp only [depth_under_make, depth_under_kw, depth_in1, depth_deeper, depth_caller]; omega)); (case I1 => k_asm); (case l1 => assumption); (case I2 => k_asm); (case l2 => assumption);
  k_whole; intro l' ys' nl' h' tk' hI' ho' F' N'; (try k_sweep))))
local macro_rules | `(tactic| walk_at "call ref") => `(tactic| (k_here; (with_reducible show wpAny _ _ (call (Value.ref _) _ (List.zip _ _)) _ _ _); k_dflt (
  refine' mk ?B ?F ?X ?N ?T ?dep ?I ?len ?_; (case B => k_asm); (case F => k_asm); (case X => k_asm); (case N => first | k_asm | exact rot_mk (by k_asm)); (case T => k_asm);
  (case dep => (simp only [depth_under_make, depth_under_kw, depth_in1, depth_deeper, depth_caller]; omega)); (case I => k_asm); (case len => first | assumption | (rw [List.length_zipWith]; omega));
  k_whole; intro p' dp' t1' t2' h' tk' hlt' hpp' F' N'; (try k_sweep))))
theorem psub {w : World} {A₀ : Around} {d u : Nat} {gua : Option (List Code)} {outer : List Env} {base h₀ : Heap} {L gl bi : Addr} {nms : List (Str × NameKind)} {ig ic : Bool} {mo : List (Str × Const)} {ce : List (Str × Addr)} {qu : Str} {fu : Option Addr} {cd : Value}
    {s : Shared} {m mg mb : Str → Option Value} {loose : List Str} {mean : ExcName → Option Value} {rest : List (Addr × Obj)}
    {x dx z n p1 d1 l1 p2 d2 l2 n1 n2 : Nat} {t1 t2 t3 t4 t5 t6 t8 a1 a2 b1 b2 : Tok} {t7 : Int} {us1 us2 : List Value} {vs1 vs2 : List Int}
    {Q E : Value → Shared → Prop}
    (B : Below A₀ base outer h₀) (F : Fr h₀ L s.heap m) (X : (hd.heap_39 w.params).In h₀)
    (N : News h₀ L s.heap ((p1, instObj 426 d1) :: (d1, polyDict w x l1 a1 a2) :: (l1, W.listOf us1.toArray n1) :: (p2, instObj 426 d2) :: (d2, polyDict w x l2 b1 b2) :: (l2, W.listOf us2.toArray n2) ::
      (x, instObj 282 dx) :: (dx, ringDict w z t1 t2 t3 t4 t5 t6 t7 t8 n) :: rest))
    (T : Top hdView loose mean mg mb h₀) (hdep : d ≤ 370) (hI1 : IntsAre us1 vs1) (hlen1 : vs1.length = 256) (hI2 : IntsAre us2 vs2) (hlen2 : vs2.length = 256)
    (h : ∀ p dp l ys nl t1' t2' h' tk', IntsAre ys (List.zipWith (fun a b => (a - b).fmod 3329) vs1 vs2) →
      LCg.Off1 l ((p1, instObj 426 d1) :: (d1, polyDict w x l1 a1 a2) :: (l1, W.listOf us1.toArray n1) :: (p2, instObj 426 d2) :: (d2, polyDict w x l2 b1 b2) :: (l2, W.listOf us2.toArray n2) :: (x, instObj 282 dx) :: (dx, ringDict w z t1 t2 t3 t4 t5 t6 t7 t8 n) :: rest) →
      AllLt dp ((l, W.listOf ys.toArray nl) :: (p1, instObj 426 d1) :: (d1, polyDict w x l1 a1 a2) :: (l1, W.listOf us1.toArray n1) :: (p2, instObj 426 d2) :: (d2, polyDict w x l2 b1 b2) :: (l2, W.listOf us2.toArray n2) :: (x, instObj 282 dx) :: (dx, ringDict w z t1 t2 t3 t4 t5 t6 t7 t8 n) :: rest) →
      @LT.lt Nat _ dp p → Fr h₀ L h' m →
      News h₀ L h' ((p, instObj 426 dp) :: (dp, polyDict w x l t1' t2') :: (l, W.listOf ys.toArray nl) :: (p1, instObj 426 d1) :: (d1, polyDict w x l1 a1 a2) :: (l1, W.listOf us1.toArray n1) :: (p2, instObj 426 d2) :: (d2, polyDict w x l2 b1 b2) :: (l2, W.listOf us2.toArray n2) :: (x, instObj 282 dx) :: (dx, ringDict w z t1 t2 t3 t4 t5 t6 t7 t8 n) :: rest) → Q (.ref p) { s with heap := h', toks := tk' }) :
    wpAny (model PySem.Challenge.rw_yi0044_01.row.prog w) { handled := none, depth := d, frames := some (Env.mk { kind := .function, names := nms, isGenerator := ig, isCoroutine := ic, more := mo } L gl ce qu fu cd (some L) bi :: outer), guards := gua, units := u }
      (binaryOp .Sub (.ref p1) (.ref p2)) Q E s := by
  revert X
  k_fill
  intro X
  k_with_none
  w_strict k_steps
  rename_i hlt hpp F9 N9 kF kN _ _
  have N2 := rot_back kN
  refine' h _ _ _ _ _ _ _ _ _ ?I ?o ?q ?pp ?F ?N
  case N => exact N2
  case F => assumption
  case I => assumption
  case o => assumption
  case q =>
    have q := ‹AllLt _ _›
    obtain ⟨a, b, c, d, e, f, g, h, i, r⟩ := q
    exact ⟨a, d, e, f, g, h, i, b, c, r⟩
  case pp => assumption
end
end Mine
namespace Mine
section
open PySem PySem.W PySem.Spec PySem.Calls PyProof.Rows
theorem mul_ref {M : Model} {A : Around} {E : Value → Shared → Prop} {s : Shared} {Q : Fin → Shared → Prop} {x : Addr} {ox : Obj} {k : Int} {t : Tok} (ho : s.heap.get? x = some ox) (hd : ox.data = .plain) (h : Q (.done (.ret .notImplemented)) s) :
    wpAny M A (Builtin.«int.__mul__» ⟨[.int k t, .ref x], []⟩) Q E s := by
  obtain ⟨hp, g, d, tk, os⟩ := s
  obtain ⟨c, dd, data, sl⟩ := ox
  simp only at hd
  subst hd
  repeat (any_goals (first | assumption | wp_step))
theorem add_ref {M : Model} {A : Around} {E : Value → Shared → Prop} {s : Shared} {Q : Fin → Shared → Prop} {x : Addr} {ox : Obj} {k : Int} {t : Tok} (ho : s.heap.get? x = some ox) (hd : ox.data = .plain) (h : Q (.done (.ret .notImplemented)) s) :
    wpAny M A (Builtin.«int.__add__» ⟨[.int k t, .ref x], []⟩) Q E s := by
  obtain ⟨hp, g, d, tk, os⟩ := s
  obtain ⟨c, dd, data, sl⟩ := ox
  simp only at hd
  subst hd
  repeat (any_goals (first | assumption | wp_step))
section
variable {prog : Program} {w : World} {A : Around} {E : Value → Shared → Prop} {s : Shared} {K : Frag} {x C L f : Addr} {h₀ : Heap} {m : Str → Option Value} {ox : Obj} {od : Option Obj} {k : Int} {t : Tok}
theorem try_mul {Q : Option Value → Shared → Prop} (ho : s.heap.get? x = some ox) (hd : ox.data = .plain) (h : Q none s) : wpAny (model prog w) A (tryMethod (.int k t) (PySem.dunder "mul") (.ref x)) Q E s := by
  obtain ⟨hp, g, d, tk, os⟩ := s
  have hT : (⟨hp, g, d, tk, os⟩ : Shared).TypeIs (.int k t) "int" := rfl
  have f3 := F.slot_int_mul.lookup
  have f4 := F.slot_int_mul.bind (.int k t)
  repeat (any_goals (first | assumption | ((with_reducible show wpAny _ _ (call (Value.builtin "int.__mul__") _ _) _ _ _); refine wpAny_call_entry F.slot_int_mul hT F.entry_int_mul ?_ (F.args_int_mul_2 _ _); refine mul_ref ho hd ?_; refine ⟨_, rfl, ?_⟩) | wp_step))
theorem try_add {Q : Option Value → Shared → Prop} (ho : s.heap.get? x = some ox) (hd : ox.data = .plain) (h : Q none s) : wpAny (model prog w) A (tryMethod (.int k t) (PySem.dunder "add") (.ref x)) Q E s := by
  obtain ⟨hp, g, d, tk, os⟩ := s
  have hT : (⟨hp, g, d, tk, os⟩ : Shared).TypeIs (.int k t) "int" := rfl
  have f3 := F.slot_int_add.lookup
  have f4 := F.slot_int_add.bind (.int k t)
  repeat (any_goals (first | assumption | ((with_reducible show wpAny _ _ (call (Value.builtin "int.__add__") _ _) _ _ _); refine wpAny_call_entry F.slot_int_add hT F.entry_int_add ?_ (F.args_int_add_2 _ _); refine add_ref ho hd ?_; refine ⟨_, rfl, ?_⟩) | wp_step))
theorem rbin {op : Operator} {Q : Value → Shared → Prop} {g : Addr} {nm sym : String} (hi : op.info = (sym, nm)) (F : Fr h₀ L s.heap m) (X₀ : K.In h₀) (I : InstAt s.heap x ox C od) (hc : selfFirst K C = true)
    (hs : findIn K (.ref C) (PySem.dunder nm) = some (some (.ref f))) (hr : findIn K (.ref C) (dunderR nm) = some (some (.ref g))) (hg : isFn K (.ref g) = true)
    (hl : fillsNumberSlot (.type "int") nm = pure true) (hpy : numberSlotInPython (.type "int") nm = pure false) (hsub : subIn K (.ref C) (.type "int") = some false)
    (htry : ∀ {Q : Option Value → Shared → Prop}, Q none s → wpAny (model prog w) A (tryMethod (.int k t) (PySem.dunder nm) (.ref x)) Q E s)
    (h : wpAny (model prog w) A (call (.ref g) [.ref x, .int k t]) (W.CmpBack Q) E s) : wpAny (model prog w) A (binaryOp op (.int k t) (.ref x)) Q E s := by
  have X := X₀.keeps F.keep
  obtain ⟨cd, rest, hcd, hm⟩ := ksp_first hc
  have one := ksp_try X I hr hg h
  obtain ⟨hh, gg, d, tt, os⟩ := s
  have L1 : Looks (model prog w) hh (typeOf (.ref x)) (.ref C) := I.type
  have L2 : Looks (model prog w) hh (typeOf (.int k t)) (.type "int") := Looks.of_pure rfl
  have L3 : Looks (model prog w) hh (fillsNumberSlot (.ref C) nm) true := fills_K X hcd hm hs
  have L4 : Looks (model prog w) hh (fillsNumberSlot (.type "int") nm) true := Looks.of_pure hl
  have L5 : Looks (model prog w) hh (isSubtype (.ref C) (.type "int")) false := looks_subIn X hsub
  have L7 : Looks (model prog w) hh (numberSlotInPython (.type "int") nm) false := Looks.of_pure hpy
  have hne : (Value.type "int" == Value.ref C) = false := Bool.eq_false_iff.mpr fun q => by cases beq_iff_eq.mp q
  simp only [binaryOp, hi]
  refine wpAny_holding (wpAny_bind ?_)
  unfold binaryOp1
  refine wpAny_bind (L2.at (wpAny_bind (L1.at (wpAny_bind (L4.at ?_)))))
  simp only [hne, Bool.false_eq_true, if_false]
  ksp_lk
  refine htry ?_
  ksp_lk
  refine wpAny_mono one (fun r s' hr' => ?_) fun _ _ e => e
  obtain ⟨v, rfl, hq⟩ := hr'
  ksp_lk
  exact hq
end
end
end Mine
namespace Mine
section
theorem rot_mk2_q {g h : Heap} {L : Addr} {l a1 a2 a3 x dx : Addr × Obj} {r : List (Addr × Obj)} (N : News g L h (l :: a1 :: a2 :: a3 :: x :: dx :: r)) : News g L h (l :: x :: dx :: a1 :: a2 :: a3 :: r) := fun p hp => N p (by
  simp only [List.mem_cons] at hp ⊢
  rcases hp with h | h | h | h | h | h | h <;> simp [h])
theorem rot_mk3_q {g h : Heap} {L : Addr} {l c a1 a2 a3 x dx : Addr × Obj} {r : List (Addr × Obj)} (N : News g L h (l :: c :: a1 :: a2 :: a3 :: x :: dx :: r)) : News g L h (l :: x :: dx :: a1 :: a2 :: a3 :: r) := fun p hp => N p (by
  simp only [List.mem_cons] at hp ⊢
  rcases hp with h | h | h | h | h | h | h <;> simp [h])
theorem rot_back2_q {g h : Heap} {L : Addr} {p dp l a1 a2 a3 x dx : Addr × Obj} {r : List (Addr × Obj)} (N : News g L h (p :: dp :: l :: x :: dx :: a1 :: a2 :: a3 :: r)) : News g L h (p :: dp :: l :: a1 :: a2 :: a3 :: x :: dx :: r) := fun p hp => N p (by
  simp only [List.mem_cons] at hp ⊢
  rcases hp with h | h | h | h | h | h | h | h | h <;> simp [h])
theorem copyN_q {prog : Program} {w : World} {A : Around} {E : Value → Shared → Prop} {s : Shared} {h₀ : Heap} {L l : Addr} {m : Str → Option Value} {news : List (Addr × Obj)} {vs : List Value} {Q : Value → Shared → Prop} (F : Fr h₀ L s.heap m) (N : News h₀ L s.heap news) (hl : s.heap.IsList l vs.toArray)
    (h : ∀ D h', Fr h₀ L h' m → News h₀ L h' ((D, W.listOf vs.toArray 0) :: news) → (∀ p ∈ news, p.1 < D) → Q (.ref D) { s with heap := h' }) (hsz : vs.length ≤ sizeLine) :
    wpAny (model prog w) A (call (.builtin "list.copy") [.ref l]) Q E s :=
  PyProof.Rows.copy_list F N hl (fun h' F' N' => h _ h' F' N' fun p hp => Heap.lt_size (N p hp).1) hsz
theorem off_of_q {d : Nat} : ∀ {l : List (Addr × Obj)}, AllLt d l → LCg.Off1 d l
  | [], _ => trivial
  | _ :: _, h => ⟨Nat.ne_of_lt h.1, off_of_q h.2⟩
local macro_rules | `(tactic| walk_at "call builtin:list.copy") => `(tactic| (k_here; k_dflt (refine' copyN_q ?F ?N ?L ?_ ?z; (case F => k_asm); (case N => k_asm); (case L => is_list); (case z => (rw [sizeLine_eq]; omega)); k_whole); intro D' h' F' N' l1; (have ho9 := off_of_q (allLt_of l1)); (try k_lt l1); (try k_sweep)))
local macro_rules | `(tactic| walk_at "binaryOp Mult int ref") => `(tactic| (k_here; k_dflt (refine' rbin (nm := "mul") ?hi ?F ?X ?I ?c ?s ?r ?g ?l ?py ?sub ?tr ?_; (case hi => exact rfl); (case F => k_asm); (case X => k_asm); (case I => k_inst); (case c => k_is); (case s => k_is); (case r => k_is); (case g => k_is); (case l => exact F.fills_int_mul); (case py => exact rfl); (case sub => k_is); (case tr => (intro Q hq; exact try_mul (W.InstAt.at_ (by k_inst)) rfl hq)); k_whole)))
local macro_rules | `(tactic| walk_at "binaryOp Add int ref") => `(tactic| (k_here; k_dflt (refine' rbin (nm := "add") ?hi ?F ?X ?I ?c ?s ?r ?g ?l ?py ?sub ?tr ?_; (case hi => exact rfl); (case F => k_asm); (case X => k_asm); (case I => k_inst); (case c => k_is); (case s => k_is); (case r => k_is); (case g => k_is); (case l => exact F.fills_int_add); (case py => exact rfl); (case sub => k_is); (case tr => (intro Q hq; exact try_add (W.InstAt.at_ (by k_inst)) rfl hq)); k_whole)))
local macro_rules | `(tactic| mul_fits) => `(tactic| exact PySem.IntMulOk.of_right (PySem.intBits_le_64 (by omega) (by omega)))
local macro_rules | `(tactic| k_all) => `(tactic| first | assumption | exact allLt_ne (by assumption) (by omega) | ((rename _ ∧ _ ∧ _ ∧ _ ∧ _ ∧ AllLt _ _ => q9'); exact allLt_ne q9'.2.2.2.2.2 (by omega)))
local macro_rules | `(tactic| k_room) => `(tactic| ((try simp only [depth_under_make, depth_under_kw, depth_in1, depth_deeper, depth_caller]); simp only [recursionLimit]; omega))
local macro_rules | `(tactic| walk_at "callWith ref") => `(tactic| (k_here; kco_any "__call__"; kco_here; k_dflt (
  refine' callWith_KWI ?k1 ?k2 ?k3 ?k4 ?_; (case k1 => k_in); (case k2 => k_inst); (case k3 => rfl); (case k4 => exact rfl); k_whole)))
local macro_rules | `(tactic| walk_at "call ref") => `(tactic| (k_here; (with_reducible show wpAny _ _ (call (Value.ref _) _ (List.zip _ _)) _ _ _); k_dflt (
  refine' mk ?B ?F ?X ?N ?T ?dep ?I ?len ?_; (case B => k_asm); (case F => k_asm); (case X => k_asm); (case N => first | k_asm | exact rot_mk2_q (by k_asm) | exact rot_mk3_q (by k_asm)); (case T => k_asm);
  (case dep => (simp only [depth_under_make, depth_under_kw, depth_in1, depth_deeper, depth_caller]; omega)); (case I => k_asm); (case len => first | assumption | (simp only [List.length_map, List.length_set]; omega));
  k_whole; intro p' dp' t1' t2' h' tk' hlt' hpp' F' N'; (try k_sweep))))
local macro_rules | `(tactic| walk_at "exec Assign cons ListComp") => `(tactic| (k_here; k_dflt (refine LCg.Assign_ListComp_U (F₀ := by k_asm) (by rfl) (by with_unfolding_all rfl) (by with_unfolding_all rfl) (by decide) (by rfl) (by decide) (by rfl) (by rfl) (by rfl) ?_)))
local macro_rules | `(tactic| walk_at "CompSrc") => `(tactic| (k_here; (try k_fmods); (try kcf_lens); k_dflt (
  refine LCg.CompSrc.ledger (by rfl) (by k_asm) (by k_asm) (by k_mem) (by kcf_size) ?_; intro g'; (refine' kcf_list _ (by first | assumption | l_ints) (fun k' t' I' oI' C' oC' D' m' ys' h' tk' E' hk' hC' hx' F' N' off' ne' hMark' => ?_) ?_); (all_goals (try (simp only [LCg.Off3, and_true] at off'))); kcf_last)))
local macro_rules | `(tactic| walk_at "getMethod ref") => `(tactic| (k_here; (with_reducible show wpAny _ _ (getMethod (Value.ref _) (PySem.Str.ofString "parent") _) _ _ _); k_dflt (refine' kmu_own ?k1 ?k2 ?k3 ?k4 ?k5 ?_; (case k1 => k_asm); (case k2 => k_asm); (case k3 => k_inst); (case k4 => k_is); (case k5 => k_is); k_whole)))
theorem pmuli {w : World} {A₀ : Around} {d u : Nat} {gua : Option (List Code)} {outer : List Env} {base h₀ : Heap} {L gl bi : Addr} {nms : List (Str × NameKind)} {ig ic : Bool} {mo : List (Str × Const)} {ce : List (Str × Addr)} {qu : Str} {fu : Option Addr} {cd : Value}
    {s : Shared} {m mg mb : Str → Option Value} {loose : List Str} {mean : ExcName → Option Value} {rest : List (Addr × Obj)}
    {x dx z n p1 d1 l1 n1 : Nat} {t1 t2 t3 t4 t5 t6 t8 a1 a2 tk0 : Tok} {t7 k0 : Int} {us1 : List Value} {vs1 : List Int}
    {Q E : Value → Shared → Prop}
    (B : Below A₀ base outer h₀) (F : Fr h₀ L s.heap m) (X : (hd.heap_39 w.params).In h₀)
    (N : News h₀ L s.heap ((p1, instObj 426 d1) :: (d1, polyDict w x l1 a1 a2) :: (l1, W.listOf us1.toArray n1) :: (x, instObj 282 dx) :: (dx, ringDict w z t1 t2 t3 t4 t5 t6 t7 t8 n) :: rest))
    (T : Top hdView loose mean mg mb h₀) (hdep : d ≤ 370) (hI1 : IntsAre us1 vs1) (hlen1 : vs1.length = 256) (hk0 : -20000 ≤ k0) (hk1 : k0 ≤ 20000)
    (h : ∀ p dp l ys nl t1' t2' h' tk', IntsAre ys (vs1.map fun c => (c * k0).fmod 3329) →
      LCg.Off1 l ((p1, instObj 426 d1) :: (d1, polyDict w x l1 a1 a2) :: (l1, W.listOf us1.toArray n1) :: (x, instObj 282 dx) :: (dx, ringDict w z t1 t2 t3 t4 t5 t6 t7 t8 n) :: rest) →
      AllLt dp ((l, W.listOf ys.toArray nl) :: (p1, instObj 426 d1) :: (d1, polyDict w x l1 a1 a2) :: (l1, W.listOf us1.toArray n1) :: (x, instObj 282 dx) :: (dx, ringDict w z t1 t2 t3 t4 t5 t6 t7 t8 n) :: rest) →
      @LT.lt Nat _ dp p → Fr h₀ L h' m →
      News h₀ L h' ((p, instObj 426 dp) :: (dp, polyDict w x l t1' t2') :: (l, W.listOf ys.toArray nl) :: (p1, instObj 426 d1) :: (d1, polyDict w x l1 a1 a2) :: (l1, W.listOf us1.toArray n1) :: (x, instObj 282 dx) :: (dx, ringDict w z t1 t2 t3 t4 t5 t6 t7 t8 n) :: rest) → Q (.ref p) { s with heap := h', toks := tk' }) :
    wpAny (model PySem.Challenge.rw_yi0044_01.row.prog w) { handled := none, depth := d, frames := some (Env.mk { kind := .function, names := nms, isGenerator := ig, isCoroutine := ic, more := mo } L gl ce qu fu cd (some L) bi :: outer), guards := gua, units := u }
      (binaryOp .Mult (.ref p1) (.int k0 tk0)) Q E s := by
  revert X
  k_fill
  intro X
  have hul1 := hI1.length
  k_with_none
  w_strict k_steps
  rename_i kN _ _
  have N2 := rot_back2_q kN
  refine' h _ _ _ _ _ _ _ _ _ ?I ?o ?q ?pp ?F ?N
  case N => exact N2
  case F => assumption
  case I => first | assumption
  case o =>
    first
    | assumption
    | exact (by assumption : _ ∧ LCg.Off1 _ _).2
    | (have q := ‹LCg.Off1 _ (_ :: (p1, _) :: _)›; exact q.2)
    | (have q := ‹_ ∧ _ ∧ _ ∧ _ ∧ _ ∧ LCg.Off1 _ rest›; exact q)
    | (have q := ‹_ ∧ _ ∧ _ ∧ _ ∧ _ ∧ _ ∧ LCg.Off1 _ rest›; exact q.2)
    | (have q := ‹_ ∧ _ ∧ _ ∧ _ ∧ _ ∧ AllLt _ rest›; exact off_of_q q)
    | (have q := ‹_ ∧ _ ∧ _ ∧ _ ∧ _ ∧ _ ∧ AllLt _ rest›; exact off_of_q q.2)
  case q =>
    have q := ‹AllLt _ ((_, _) :: _)›
    obtain ⟨a, b, c, d, e, f, r⟩ := q
    exact ⟨a, d, e, f, b, c, r⟩
  case pp => assumption
theorem pimul {w : World} {A₀ : Around} {d u : Nat} {gua : Option (List Code)} {outer : List Env} {base h₀ : Heap} {L gl bi : Addr} {nms : List (Str × NameKind)} {ig ic : Bool} {mo : List (Str × Const)} {ce : List (Str × Addr)} {qu : Str} {fu : Option Addr} {cd : Value}
    {s : Shared} {m mg mb : Str → Option Value} {loose : List Str} {mean : ExcName → Option Value} {rest : List (Addr × Obj)}
    {x dx z n p1 d1 l1 n1 : Nat} {t1 t2 t3 t4 t5 t6 t8 a1 a2 tk0 : Tok} {t7 k0 : Int} {us1 : List Value} {vs1 : List Int}
    {Q E : Value → Shared → Prop}
    (B : Below A₀ base outer h₀) (F : Fr h₀ L s.heap m) (X : (hd.heap_39 w.params).In h₀)
    (N : News h₀ L s.heap ((p1, instObj 426 d1) :: (d1, polyDict w x l1 a1 a2) :: (l1, W.listOf us1.toArray n1) :: (x, instObj 282 dx) :: (dx, ringDict w z t1 t2 t3 t4 t5 t6 t7 t8 n) :: rest))
    (T : Top hdView loose mean mg mb h₀) (hdep : d ≤ 370) (hI1 : IntsAre us1 vs1) (hlen1 : vs1.length = 256) (hk0 : -20000 ≤ k0) (hk1 : k0 ≤ 20000)
    (h : ∀ p dp l ys nl t1' t2' h' tk', IntsAre ys (vs1.map fun c => (c * k0).fmod 3329) →
      LCg.Off1 l ((p1, instObj 426 d1) :: (d1, polyDict w x l1 a1 a2) :: (l1, W.listOf us1.toArray n1) :: (x, instObj 282 dx) :: (dx, ringDict w z t1 t2 t3 t4 t5 t6 t7 t8 n) :: rest) →
      AllLt dp ((l, W.listOf ys.toArray nl) :: (p1, instObj 426 d1) :: (d1, polyDict w x l1 a1 a2) :: (l1, W.listOf us1.toArray n1) :: (x, instObj 282 dx) :: (dx, ringDict w z t1 t2 t3 t4 t5 t6 t7 t8 n) :: rest) →
      @LT.lt Nat _ dp p → Fr h₀ L h' m →
      News h₀ L h' ((p, instObj 426 dp) :: (dp, polyDict w x l t1' t2') :: (l, W.listOf ys.toArray nl) :: (p1, instObj 426 d1) :: (d1, polyDict w x l1 a1 a2) :: (l1, W.listOf us1.toArray n1) :: (x, instObj 282 dx) :: (dx, ringDict w z t1 t2 t3 t4 t5 t6 t7 t8 n) :: rest) → Q (.ref p) { s with heap := h', toks := tk' }) :
    wpAny (model PySem.Challenge.rw_yi0044_01.row.prog w) { handled := none, depth := d, frames := some (Env.mk { kind := .function, names := nms, isGenerator := ig, isCoroutine := ic, more := mo } L gl ce qu fu cd (some L) bi :: outer), guards := gua, units := u }
      (binaryOp .Mult (.int k0 tk0) (.ref p1)) Q E s := by
  revert X
  k_fill
  intro X
  have hul1 := hI1.length
  k_with_none
  w_strict k_steps
  rename_i kN _ _
  have N2 := rot_back2_q kN
  refine' h _ _ _ _ _ _ _ _ _ ?I ?o ?q ?pp ?F ?N
  case N => exact N2
  case F => assumption
  case I => first | assumption
  case o =>
    first
    | assumption
    | exact (by assumption : _ ∧ LCg.Off1 _ _).2
    | (have q := ‹LCg.Off1 _ (_ :: (p1, _) :: _)›; exact q.2)
    | (have q := ‹_ ∧ _ ∧ _ ∧ _ ∧ _ ∧ LCg.Off1 _ rest›; exact q)
    | (have q := ‹_ ∧ _ ∧ _ ∧ _ ∧ _ ∧ _ ∧ LCg.Off1 _ rest›; exact q.2)
    | (have q := ‹_ ∧ _ ∧ _ ∧ _ ∧ _ ∧ AllLt _ rest›; exact off_of_q q)
    | (have q := ‹_ ∧ _ ∧ _ ∧ _ ∧ _ ∧ _ ∧ AllLt _ rest›; exact off_of_q q.2)
  case q =>
    have q := ‹AllLt _ ((_, _) :: _)›
    obtain ⟨a, b, c, d, e, f, r⟩ := q
    exact ⟨a, d, e, f, b, c, r⟩
  case pp => assumption
theorem paddi {w : World} {A₀ : Around} {d u : Nat} {gua : Option (List Code)} {outer : List Env} {base h₀ : Heap} {L gl bi : Addr} {nms : List (Str × NameKind)} {ig ic : Bool} {mo : List (Str × Const)} {ce : List (Str × Addr)} {qu : Str} {fu : Option Addr} {cd : Value}
    {s : Shared} {m mg mb : Str → Option Value} {loose : List Str} {mean : ExcName → Option Value} {rest : List (Addr × Obj)}
    {x dx z n p1 d1 l1 n1 : Nat} {t1 t2 t3 t4 t5 t6 t8 a1 a2 tk0 : Tok} {t7 k0 : Int} {us1 : List Value} {vs1 : List Int}
    {Q E : Value → Shared → Prop}
    (B : Below A₀ base outer h₀) (F : Fr h₀ L s.heap m) (X : (hd.heap_39 w.params).In h₀)
    (N : News h₀ L s.heap ((p1, instObj 426 d1) :: (d1, polyDict w x l1 a1 a2) :: (l1, W.listOf us1.toArray n1) :: (x, instObj 282 dx) :: (dx, ringDict w z t1 t2 t3 t4 t5 t6 t7 t8 n) :: rest))
    (T : Top hdView loose mean mg mb h₀) (hdep : d ≤ 370) (hI1 : IntsAre us1 vs1) (hlen1 : vs1.length = 256) (hk0 : -20000 ≤ k0) (hk1 : k0 ≤ 20000)
    (h : ∀ p dp l ys nl t1' t2' h' tk', IntsAre ys (vs1.set 0 ((vs1.getD 0 0 + k0).fmod 3329)) →
      LCg.Off1 l ((p1, instObj 426 d1) :: (d1, polyDict w x l1 a1 a2) :: (l1, W.listOf us1.toArray n1) :: (x, instObj 282 dx) :: (dx, ringDict w z t1 t2 t3 t4 t5 t6 t7 t8 n) :: rest) →
      AllLt dp ((l, W.listOf ys.toArray nl) :: (p1, instObj 426 d1) :: (d1, polyDict w x l1 a1 a2) :: (l1, W.listOf us1.toArray n1) :: (x, instObj 282 dx) :: (dx, ringDict w z t1 t2 t3 t4 t5 t6 t7 t8 n) :: rest) →
      @LT.lt Nat _ dp p → Fr h₀ L h' m →
      News h₀ L h' ((p, instObj 426 dp) :: (dp, polyDict w x l t1' t2') :: (l, W.listOf ys.toArray nl) :: (p1, instObj 426 d1) :: (d1, polyDict w x l1 a1 a2) :: (l1, W.listOf us1.toArray n1) :: (x, instObj 282 dx) :: (dx, ringDict w z t1 t2 t3 t4 t5 t6 t7 t8 n) :: rest) → Q (.ref p) { s with heap := h', toks := tk' }) :
    wpAny (model PySem.Challenge.rw_yi0044_01.row.prog w) { handled := none, depth := d, frames := some (Env.mk { kind := .function, names := nms, isGenerator := ig, isCoroutine := ic, more := mo } L gl ce qu fu cd (some L) bi :: outer), guards := gua, units := u }
      (binaryOp .Add (.ref p1) (.int k0 tk0)) Q E s := by
  revert X
  k_fill
  intro X
  have hul1 := hI1.length
  k_with_none
  w_strict k_steps
  rename_i kN _ _
  have N2 := rot_back2_q kN
  refine' h _ _ _ _ _ _ _ _ _ ?I ?o ?q ?pp ?F ?N
  case N => exact N2
  case F => assumption
  case I => first | assumption
  case o =>
    first
    | assumption
    | exact (by assumption : _ ∧ LCg.Off1 _ _).2
    | (have q := ‹LCg.Off1 _ (_ :: (p1, _) :: _)›; exact q.2)
    | (have q := ‹_ ∧ _ ∧ _ ∧ _ ∧ _ ∧ LCg.Off1 _ rest›; exact q)
    | (have q := ‹_ ∧ _ ∧ _ ∧ _ ∧ _ ∧ _ ∧ LCg.Off1 _ rest›; exact q.2)
    | (have q := ‹_ ∧ _ ∧ _ ∧ _ ∧ _ ∧ AllLt _ rest›; exact off_of_q q)
    | (have q := ‹_ ∧ _ ∧ _ ∧ _ ∧ _ ∧ _ ∧ AllLt _ rest›; exact off_of_q q.2)
  case q =>
    have q := ‹AllLt _ ((_, _) :: _)›
    obtain ⟨a, b, c, d, e, f, r⟩ := q
    exact ⟨a, d, e, f, b, c, r⟩
  case pp => assumption
theorem piadd {w : World} {A₀ : Around} {d u : Nat} {gua : Option (List Code)} {outer : List Env} {base h₀ : Heap} {L gl bi : Addr} {nms : List (Str × NameKind)} {ig ic : Bool} {mo : List (Str × Const)} {ce : List (Str × Addr)} {qu : Str} {fu : Option Addr} {cd : Value}
    {s : Shared} {m mg mb : Str → Option Value} {loose : List Str} {mean : ExcName → Option Value} {rest : List (Addr × Obj)}
    {x dx z n p1 d1 l1 n1 : Nat} {t1 t2 t3 t4 t5 t6 t8 a1 a2 tk0 : Tok} {t7 k0 : Int} {us1 : List Value} {vs1 : List Int}
    {Q E : Value → Shared → Prop}
    (B : Below A₀ base outer h₀) (F : Fr h₀ L s.heap m) (X : (hd.heap_39 w.params).In h₀)
    (N : News h₀ L s.heap ((p1, instObj 426 d1) :: (d1, polyDict w x l1 a1 a2) :: (l1, W.listOf us1.toArray n1) :: (x, instObj 282 dx) :: (dx, ringDict w z t1 t2 t3 t4 t5 t6 t7 t8 n) :: rest))
    (T : Top hdView loose mean mg mb h₀) (hdep : d ≤ 370) (hI1 : IntsAre us1 vs1) (hlen1 : vs1.length = 256) (hk0 : -20000 ≤ k0) (hk1 : k0 ≤ 20000)
    (h : ∀ p dp l ys nl t1' t2' h' tk', IntsAre ys (vs1.set 0 ((vs1.getD 0 0 + k0).fmod 3329)) →
      LCg.Off1 l ((p1, instObj 426 d1) :: (d1, polyDict w x l1 a1 a2) :: (l1, W.listOf us1.toArray n1) :: (x, instObj 282 dx) :: (dx, ringDict w z t1 t2 t3 t4 t5 t6 t7 t8 n) :: rest) →
      AllLt dp ((l, W.listOf ys.toArray nl) :: (p1, instObj 426 d1) :: (d1, polyDict w x l1 a1 a2) :: (l1, W.listOf us1.toArray n1) :: (x, instObj 282 dx) :: (dx, ringDict w z t1 t2 t3 t4 t5 t6 t7 t8 n) :: rest) →
      @LT.lt Nat _ dp p → Fr h₀ L h' m →
      News h₀ L h' ((p, instObj 426 dp) :: (dp, polyDict w x l t1' t2') :: (l, W.listOf ys.toArray nl) :: (p1, instObj 426 d1) :: (d1, polyDict w x l1 a1 a2) :: (l1, W.listOf us1.toArray n1) :: (x, instObj 282 dx) :: (dx, ringDict w z t1 t2 t3 t4 t5 t6 t7 t8 n) :: rest) → Q (.ref p) { s with heap := h', toks := tk' }) :
    wpAny (model PySem.Challenge.rw_yi0044_01.row.prog w) { handled := none, depth := d, frames := some (Env.mk { kind := .function, names := nms, isGenerator := ig, isCoroutine := ic, more := mo } L gl ce qu fu cd (some L) bi :: outer), guards := gua, units := u }
      (binaryOp .Add (.int k0 tk0) (.ref p1)) Q E s := by
  revert X
  k_fill
  intro X
  have hul1 := hI1.length
  k_with_none
  w_strict k_steps
  rename_i kN _ _
  have N2 := rot_back2_q kN
  refine' h _ _ _ _ _ _ _ _ _ ?I ?o ?q ?pp ?F ?N
  case N => exact N2
  case F => assumption
  case I => first | assumption
  case o =>
    first
    | assumption
    | exact (by assumption : _ ∧ LCg.Off1 _ _).2
    | (have q := ‹LCg.Off1 _ (_ :: (p1, _) :: _)›; exact q.2)
    | (have q := ‹_ ∧ _ ∧ _ ∧ _ ∧ _ ∧ LCg.Off1 _ rest›; exact q)
    | (have q := ‹_ ∧ _ ∧ _ ∧ _ ∧ _ ∧ _ ∧ LCg.Off1 _ rest›; exact q.2)
    | (have q := ‹_ ∧ _ ∧ _ ∧ _ ∧ _ ∧ AllLt _ rest›; exact off_of_q q)
    | (have q := ‹_ ∧ _ ∧ _ ∧ _ ∧ _ ∧ _ ∧ AllLt _ rest›; exact off_of_q q.2)
  case q =>
    have q := ‹AllLt _ ((_, _) :: _)›
    obtain ⟨a, b, c, d, e, f, r⟩ := q
    exact ⟨a, d, e, f, b, c, r⟩
  case pp => assumption
end
end Mine
namespace Mine
section
theorem n_cons {g h : Heap} {L : Addr} {a : Addr × Obj} {r news : List (Addr × Obj)} (N : News g L h news) (ha : a ∈ news) (hr : News g L h r) : News g L h (a :: r) := fun p hp => by
  rcases List.mem_cons.mp hp with rfl | hp
  · exact N _ ha
  · exact hr p hp

theorem padd' {w : World} {A₀ : Around} {d u : Nat} {gua : Option (List Code)} {outer : List Env} {base h₀ : Heap} {L gl bi : Addr} {nms : List (Str × NameKind)} {ig ic : Bool} {mo : List (Str × Const)} {ce : List (Str × Addr)} {qu : Str} {fu : Option Addr} {cd : Value}
    {s : Shared} {m mg mb : Str → Option Value} {loose : List Str} {mean : ExcName → Option Value} {news : List (Addr × Obj)}
    {x dx z n p1 d1 l1 p2 d2 l2 n1 n2 : Nat} {t1 t2 t3 t4 t5 t6 t8 a1 a2 b1 b2 : Tok} {t7 : Int} {us1 us2 : List Value} {vs1 vs2 : List Int}
    {Q E : Value → Shared → Prop}
    (B : Below A₀ base outer h₀) (F : Fr h₀ L s.heap m) (X : (hd.heap_39 w.params).In h₀) (N : News h₀ L s.heap news) (T : Top hdView loose mean mg mb h₀) (hdep : d ≤ 370)
    (m0 : (p1, instObj 426 d1) ∈ news) (m1 : (d1, polyDict w x l1 a1 a2) ∈ news) (m2 : (l1, W.listOf us1.toArray n1) ∈ news) (m3 : (p2, instObj 426 d2) ∈ news) (m4 : (d2, polyDict w x l2 b1 b2) ∈ news) (m5 : (l2, W.listOf us2.toArray n2) ∈ news) (m6 : (x, instObj 282 dx) ∈ news) (m7 : (dx, ringDict w z t1 t2 t3 t4 t5 t6 t7 t8 n) ∈ news)
    (hI1 : IntsAre us1 vs1) (hlen1 : vs1.length = 256) (hI2 : IntsAre us2 vs2) (hlen2 : vs2.length = 256)
    (h : ∀ p dp l ys nl t1' t2' h' tk', IntsAre ys (List.zipWith (fun a b => (a + b).fmod 3329) vs1 vs2) → LCg.Off1 l news → @LT.lt Nat _ l dp → AllLt dp news → @LT.lt Nat _ dp p → Fr h₀ L h' m →
      News h₀ L h' ((p, instObj 426 dp) :: (dp, polyDict w x l t1' t2') :: (l, W.listOf ys.toArray nl) :: news) → Q (.ref p) { s with heap := h', toks := tk' }) :
    wpAny (model PySem.Challenge.rw_yi0044_01.row.prog w) { handled := none, depth := d, frames := some (Env.mk { kind := .function, names := nms, isGenerator := ig, isCoroutine := ic, more := mo } L gl ce qu fu cd (some L) bi :: outer), guards := gua, units := u }
      (binaryOp .Add (.ref p1) (.ref p2)) Q E s :=
  padd B F X (n_cons N m0 (n_cons N m1 (n_cons N m2 (n_cons N m3 (n_cons N m4 (n_cons N m5 (n_cons N m6 (n_cons N m7 N)))))))) T hdep hI1 hlen1 hI2 hlen2 fun p dp l ys nl t1' t2' h' tk' hI ho hl hp F' N' =>
    h p dp l ys nl t1' t2' h' tk' hI ho.2.2.2.2.2.2.2.2 hl.1 hl.2.2.2.2.2.2.2.2.2 hp F' fun q hq => N' q (by
      rcases List.mem_cons.mp hq with rfl | hq
      · exact .head _
      rcases List.mem_cons.mp hq with rfl | hq
      · exact .tail _ (.head _)
      rcases List.mem_cons.mp hq with rfl | hq
      · exact .tail _ (.tail _ (.head _))
      exact .tail _ (.tail _ (.tail _ (.tail _ (.tail _ (.tail _ (.tail _ (.tail _ (.tail _ (.tail _ (.tail _ (hq))))))))))))

theorem psub' {w : World} {A₀ : Around} {d u : Nat} {gua : Option (List Code)} {outer : List Env} {base h₀ : Heap} {L gl bi : Addr} {nms : List (Str × NameKind)} {ig ic : Bool} {mo : List (Str × Const)} {ce : List (Str × Addr)} {qu : Str} {fu : Option Addr} {cd : Value}
    {s : Shared} {m mg mb : Str → Option Value} {loose : List Str} {mean : ExcName → Option Value} {news : List (Addr × Obj)}
    {x dx z n p1 d1 l1 p2 d2 l2 n1 n2 : Nat} {t1 t2 t3 t4 t5 t6 t8 a1 a2 b1 b2 : Tok} {t7 : Int} {us1 us2 : List Value} {vs1 vs2 : List Int}
    {Q E : Value → Shared → Prop}
    (B : Below A₀ base outer h₀) (F : Fr h₀ L s.heap m) (X : (hd.heap_39 w.params).In h₀) (N : News h₀ L s.heap news) (T : Top hdView loose mean mg mb h₀) (hdep : d ≤ 370)
    (m0 : (p1, instObj 426 d1) ∈ news) (m1 : (d1, polyDict w x l1 a1 a2) ∈ news) (m2 : (l1, W.listOf us1.toArray n1) ∈ news) (m3 : (p2, instObj 426 d2) ∈ news) (m4 : (d2, polyDict w x l2 b1 b2) ∈ news) (m5 : (l2, W.listOf us2.toArray n2) ∈ news) (m6 : (x, instObj 282 dx) ∈ news) (m7 : (dx, ringDict w z t1 t2 t3 t4 t5 t6 t7 t8 n) ∈ news)
    (hI1 : IntsAre us1 vs1) (hlen1 : vs1.length = 256) (hI2 : IntsAre us2 vs2) (hlen2 : vs2.length = 256)
    (h : ∀ p dp l ys nl t1' t2' h' tk', IntsAre ys (List.zipWith (fun a b => (a - b).fmod 3329) vs1 vs2) → LCg.Off1 l news → @LT.lt Nat _ l dp → AllLt dp news → @LT.lt Nat _ dp p → Fr h₀ L h' m →
      News h₀ L h' ((p, instObj 426 dp) :: (dp, polyDict w x l t1' t2') :: (l, W.listOf ys.toArray nl) :: news) → Q (.ref p) { s with heap := h', toks := tk' }) :
    wpAny (model PySem.Challenge.rw_yi0044_01.row.prog w) { handled := none, depth := d, frames := some (Env.mk { kind := .function, names := nms, isGenerator := ig, isCoroutine := ic, more := mo } L gl ce qu fu cd (some L) bi :: outer), guards := gua, units := u }
      (binaryOp .Sub (.ref p1) (.ref p2)) Q E s :=
  psub B F X (n_cons N m0 (n_cons N m1 (n_cons N m2 (n_cons N m3 (n_cons N m4 (n_cons N m5 (n_cons N m6 (n_cons N m7 N)))))))) T hdep hI1 hlen1 hI2 hlen2 fun p dp l ys nl t1' t2' h' tk' hI ho hl hp F' N' =>
    h p dp l ys nl t1' t2' h' tk' hI ho.2.2.2.2.2.2.2.2 hl.1 hl.2.2.2.2.2.2.2.2.2 hp F' fun q hq => N' q (by
      rcases List.mem_cons.mp hq with rfl | hq
      · exact .head _
      rcases List.mem_cons.mp hq with rfl | hq
      · exact .tail _ (.head _)
      rcases List.mem_cons.mp hq with rfl | hq
      · exact .tail _ (.tail _ (.head _))
      exact .tail _ (.tail _ (.tail _ (.tail _ (.tail _ (.tail _ (.tail _ (.tail _ (.tail _ (.tail _ (.tail _ (hq))))))))))))

theorem pmuli' {w : World} {A₀ : Around} {d u : Nat} {gua : Option (List Code)} {outer : List Env} {base h₀ : Heap} {L gl bi : Addr} {nms : List (Str × NameKind)} {ig ic : Bool} {mo : List (Str × Const)} {ce : List (Str × Addr)} {qu : Str} {fu : Option Addr} {cd : Value}
    {s : Shared} {m mg mb : Str → Option Value} {loose : List Str} {mean : ExcName → Option Value} {news : List (Addr × Obj)}
    {x dx z n p1 d1 l1 n1 : Nat} {t1 t2 t3 t4 t5 t6 t8 a1 a2 tk0 : Tok} {t7 k0 : Int} {us1 : List Value} {vs1 : List Int}
    {Q E : Value → Shared → Prop}
    (B : Below A₀ base outer h₀) (F : Fr h₀ L s.heap m) (X : (hd.heap_39 w.params).In h₀) (N : News h₀ L s.heap news) (T : Top hdView loose mean mg mb h₀) (hdep : d ≤ 370)
    (m0 : (p1, instObj 426 d1) ∈ news) (m1 : (d1, polyDict w x l1 a1 a2) ∈ news) (m2 : (l1, W.listOf us1.toArray n1) ∈ news) (m3 : (x, instObj 282 dx) ∈ news) (m4 : (dx, ringDict w z t1 t2 t3 t4 t5 t6 t7 t8 n) ∈ news)
    (hI1 : IntsAre us1 vs1) (hlen1 : vs1.length = 256) (hk0 : -20000 ≤ k0) (hk1 : k0 ≤ 20000)
    (h : ∀ p dp l ys nl t1' t2' h' tk', IntsAre ys (vs1.map fun c => (c * k0).fmod 3329) → LCg.Off1 l news → @LT.lt Nat _ l dp → AllLt dp news → @LT.lt Nat _ dp p → Fr h₀ L h' m →
      News h₀ L h' ((p, instObj 426 dp) :: (dp, polyDict w x l t1' t2') :: (l, W.listOf ys.toArray nl) :: news) → Q (.ref p) { s with heap := h', toks := tk' }) :
    wpAny (model PySem.Challenge.rw_yi0044_01.row.prog w) { handled := none, depth := d, frames := some (Env.mk { kind := .function, names := nms, isGenerator := ig, isCoroutine := ic, more := mo } L gl ce qu fu cd (some L) bi :: outer), guards := gua, units := u }
      (binaryOp .Mult (.ref p1) (.int k0 tk0)) Q E s :=
  pmuli B F X (n_cons N m0 (n_cons N m1 (n_cons N m2 (n_cons N m3 (n_cons N m4 N))))) T hdep hI1 hlen1 hk0 hk1 fun p dp l ys nl t1' t2' h' tk' hI ho hl hp F' N' =>
    h p dp l ys nl t1' t2' h' tk' hI ho.2.2.2.2.2 hl.1 hl.2.2.2.2.2.2 hp F' fun q hq => N' q (by
      rcases List.mem_cons.mp hq with rfl | hq
      · exact .head _
      rcases List.mem_cons.mp hq with rfl | hq
      · exact .tail _ (.head _)
      rcases List.mem_cons.mp hq with rfl | hq
      · exact .tail _ (.tail _ (.head _))
      exact .tail _ (.tail _ (.tail _ (.tail _ (.tail _ (.tail _ (.tail _ (.tail _ (hq)))))))))

theorem pimul' {w : World} {A₀ : Around} {d u : Nat} {gua : Option (List Code)} {outer : List Env} {base h₀ : Heap} {L gl bi : Addr} {nms : List (Str × NameKind)} {ig ic : Bool} {mo : List (Str × Const)} {ce : List (Str × Addr)} {qu : Str} {fu : Option Addr} {cd : Value}
    {s : Shared} {m mg mb : Str → Option Value} {loose : List Str} {mean : ExcName → Option Value} {news : List (Addr × Obj)}
    {x dx z n p1 d1 l1 n1 : Nat} {t1 t2 t3 t4 t5 t6 t8 a1 a2 tk0 : Tok} {t7 k0 : Int} {us1 : List Value} {vs1 : List Int}
    {Q E : Value → Shared → Prop}
    (B : Below A₀ base outer h₀) (F : Fr h₀ L s.heap m) (X : (hd.heap_39 w.params).In h₀) (N : News h₀ L s.heap news) (T : Top hdView loose mean mg mb h₀) (hdep : d ≤ 370)
    (m0 : (p1, instObj 426 d1) ∈ news) (m1 : (d1, polyDict w x l1 a1 a2) ∈ news) (m2 : (l1, W.listOf us1.toArray n1) ∈ news) (m3 : (x, instObj 282 dx) ∈ news) (m4 : (dx, ringDict w z t1 t2 t3 t4 t5 t6 t7 t8 n) ∈ news)
    (hI1 : IntsAre us1 vs1) (hlen1 : vs1.length = 256) (hk0 : -20000 ≤ k0) (hk1 : k0 ≤ 20000)
    (h : ∀ p dp l ys nl t1' t2' h' tk', IntsAre ys (vs1.map fun c => (c * k0).fmod 3329) → LCg.Off1 l news → @LT.lt Nat _ l dp → AllLt dp news → @LT.lt Nat _ dp p → Fr h₀ L h' m →
      News h₀ L h' ((p, instObj 426 dp) :: (dp, polyDict w x l t1' t2') :: (l, W.listOf ys.toArray nl) :: news) → Q (.ref p) { s with heap := h', toks := tk' }) :
    wpAny (model PySem.Challenge.rw_yi0044_01.row.prog w) { handled := none, depth := d, frames := some (Env.mk { kind := .function, names := nms, isGenerator := ig, isCoroutine := ic, more := mo } L gl ce qu fu cd (some L) bi :: outer), guards := gua, units := u }
      (binaryOp .Mult (.int k0 tk0) (.ref p1)) Q E s :=
  pimul B F X (n_cons N m0 (n_cons N m1 (n_cons N m2 (n_cons N m3 (n_cons N m4 N))))) T hdep hI1 hlen1 hk0 hk1 fun p dp l ys nl t1' t2' h' tk' hI ho hl hp F' N' =>
    h p dp l ys nl t1' t2' h' tk' hI ho.2.2.2.2.2 hl.1 hl.2.2.2.2.2.2 hp F' fun q hq => N' q (by
      rcases List.mem_cons.mp hq with rfl | hq
      · exact .head _
      rcases List.mem_cons.mp hq with rfl | hq
      · exact .tail _ (.head _)
      rcases List.mem_cons.mp hq with rfl | hq
      · exact .tail _ (.tail _ (.head _))
      exact .tail _ (.tail _ (.tail _ (.tail _ (.tail _ (.tail _ (.tail _ (.tail _ (hq)))))))))

theorem paddi' {w : World} {A₀ : Around} {d u : Nat} {gua : Option (List Code)} {outer : List Env} {base h₀ : Heap} {L gl bi : Addr} {nms : List (Str × NameKind)} {ig ic : Bool} {mo : List (Str × Const)} {ce : List (Str × Addr)} {qu : Str} {fu : Option Addr} {cd : Value}
    {s : Shared} {m mg mb : Str → Option Value} {loose : List Str} {mean : ExcName → Option Value} {news : List (Addr × Obj)}
    {x dx z n p1 d1 l1 n1 : Nat} {t1 t2 t3 t4 t5 t6 t8 a1 a2 tk0 : Tok} {t7 k0 : Int} {us1 : List Value} {vs1 : List Int}
    {Q E : Value → Shared → Prop}
    (B : Below A₀ base outer h₀) (F : Fr h₀ L s.heap m) (X : (hd.heap_39 w.params).In h₀) (N : News h₀ L s.heap news) (T : Top hdView loose mean mg mb h₀) (hdep : d ≤ 370)
    (m0 : (p1, instObj 426 d1) ∈ news) (m1 : (d1, polyDict w x l1 a1 a2) ∈ news) (m2 : (l1, W.listOf us1.toArray n1) ∈ news) (m3 : (x, instObj 282 dx) ∈ news) (m4 : (dx, ringDict w z t1 t2 t3 t4 t5 t6 t7 t8 n) ∈ news)
    (hI1 : IntsAre us1 vs1) (hlen1 : vs1.length = 256) (hk0 : -20000 ≤ k0) (hk1 : k0 ≤ 20000)
    (h : ∀ p dp l ys nl t1' t2' h' tk', IntsAre ys (vs1.set 0 ((vs1.getD 0 0 + k0).fmod 3329)) → LCg.Off1 l news → @LT.lt Nat _ l dp → AllLt dp news → @LT.lt Nat _ dp p → Fr h₀ L h' m →
      News h₀ L h' ((p, instObj 426 dp) :: (dp, polyDict w x l t1' t2') :: (l, W.listOf ys.toArray nl) :: news) → Q (.ref p) { s with heap := h', toks := tk' }) :
    wpAny (model PySem.Challenge.rw_yi0044_01.row.prog w) { handled := none, depth := d, frames := some (Env.mk { kind := .function, names := nms, isGenerator := ig, isCoroutine := ic, more := mo } L gl ce qu fu cd (some L) bi :: outer), guards := gua, units := u }
      (binaryOp .Add (.ref p1) (.int k0 tk0)) Q E s :=
  paddi B F X (n_cons N m0 (n_cons N m1 (n_cons N m2 (n_cons N m3 (n_cons N m4 N))))) T hdep hI1 hlen1 hk0 hk1 fun p dp l ys nl t1' t2' h' tk' hI ho hl hp F' N' =>
    h p dp l ys nl t1' t2' h' tk' hI ho.2.2.2.2.2 hl.1 hl.2.2.2.2.2.2 hp F' fun q hq => N' q (by
      rcases List.mem_cons.mp hq with rfl | hq
      · exact .head _
      rcases List.mem_cons.mp hq with rfl | hq
      · exact .tail _ (.head _)
      rcases List.mem_cons.mp hq with rfl | hq
      · exact .tail _ (.tail _ (.head _))
      exact .tail _ (.tail _ (.tail _ (.tail _ (.tail _ (.tail _ (.tail _ (.tail _ (hq)))))))))

theorem piadd' {w : World} {A₀ : Around} {d u : Nat} {gua : Option (List Code)} {outer : List Env} {base h₀ : Heap} {L gl bi : Addr} {nms : List (Str × NameKind)} {ig ic : Bool} {mo : List (Str × Const)} {ce : List (Str × Addr)} {qu : Str} {fu : Option Addr} {cd : Value}
    {s : Shared} {m mg mb : Str → Option Value} {loose : List Str} {mean : ExcName → Option Value} {news : List (Addr × Obj)}
    {x dx z n p1 d1 l1 n1 : Nat} {t1 t2 t3 t4 t5 t6 t8 a1 a2 tk0 : Tok} {t7 k0 : Int} {us1 : List Value} {vs1 : List Int}
    {Q E : Value → Shared → Prop}
    (B : Below A₀ base outer h₀) (F : Fr h₀ L s.heap m) (X : (hd.heap_39 w.params).In h₀) (N : News h₀ L s.heap news) (T : Top hdView loose mean mg mb h₀) (hdep : d ≤ 370)
    (m0 : (p1, instObj 426 d1) ∈ news) (m1 : (d1, polyDict w x l1 a1 a2) ∈ news) (m2 : (l1, W.listOf us1.toArray n1) ∈ news) (m3 : (x, instObj 282 dx) ∈ news) (m4 : (dx, ringDict w z t1 t2 t3 t4 t5 t6 t7 t8 n) ∈ news)
    (hI1 : IntsAre us1 vs1) (hlen1 : vs1.length = 256) (hk0 : -20000 ≤ k0) (hk1 : k0 ≤ 20000)
    (h : ∀ p dp l ys nl t1' t2' h' tk', IntsAre ys (vs1.set 0 ((vs1.getD 0 0 + k0).fmod 3329)) → LCg.Off1 l news → @LT.lt Nat _ l dp → AllLt dp news → @LT.lt Nat _ dp p → Fr h₀ L h' m →
      News h₀ L h' ((p, instObj 426 dp) :: (dp, polyDict w x l t1' t2') :: (l, W.listOf ys.toArray nl) :: news) → Q (.ref p) { s with heap := h', toks := tk' }) :
    wpAny (model PySem.Challenge.rw_yi0044_01.row.prog w) { handled := none, depth := d, frames := some (Env.mk { kind := .function, names := nms, isGenerator := ig, isCoroutine := ic, more := mo } L gl ce qu fu cd (some L) bi :: outer), guards := gua, units := u }
      (binaryOp .Add (.int k0 tk0) (.ref p1)) Q E s :=
  piadd B F X (n_cons N m0 (n_cons N m1 (n_cons N m2 (n_cons N m3 (n_cons N m4 N))))) T hdep hI1 hlen1 hk0 hk1 fun p dp l ys nl t1' t2' h' tk' hI ho hl hp F' N' =>
    h p dp l ys nl t1' t2' h' tk' hI ho.2.2.2.2.2 hl.1 hl.2.2.2.2.2.2 hp F' fun q hq => N' q (by
      rcases List.mem_cons.mp hq with rfl | hq
      · exact .head _
      rcases List.mem_cons.mp hq with rfl | hq
      · exact .tail _ (.head _)
      rcases List.mem_cons.mp hq with rfl | hq
      · exact .tail _ (.tail _ (.head _))
      exact .tail _ (.tail _ (.tail _ (.tail _ (.tail _ (.tail _ (.tail _ (.tail _ (hq)))))))))

theorem addm' {w : World} {A₀ : Around} {d u : Nat} {gua : Option (List Code)} {outer : List Env} {base h₀ : Heap} {L gl bi : Addr} {nms : List (Str × NameKind)} {ig ic : Bool} {mo : List (Str × Const)} {ce : List (Str × Addr)} {qu : Str} {fu : Option Addr} {cd : Value}
    {s : Shared} {m mg mb : Str → Option Value} {loose : List Str} {mean : ExcName → Option Value} {news : List (Addr × Obj)}
    {x dx z n p1 d1 l1 p2 d2 l2 n1 n2 : Nat} {t1 t2 t3 t4 t5 t6 t8 a1 a2 b1 b2 : Tok} {t7 : Int} {us1 us2 : List Value} {vs1 vs2 : List Int}
    {Q E : Value → Shared → Prop}
    (B : Below A₀ base outer h₀) (F : Fr h₀ L s.heap m) (X : (hd.heap_39 w.params).In h₀) (N : News h₀ L s.heap news) (T : Top hdView loose mean mg mb h₀) (hdep : d ≤ 370)
    (m0 : (p1, instObj 426 d1) ∈ news) (m1 : (d1, polyDict w x l1 a1 a2) ∈ news) (m2 : (l1, W.listOf us1.toArray n1) ∈ news) (m3 : (p2, instObj 426 d2) ∈ news) (m4 : (d2, polyDict w x l2 b1 b2) ∈ news) (m5 : (l2, W.listOf us2.toArray n2) ∈ news) (m6 : (x, instObj 282 dx) ∈ news) (m7 : (dx, ringDict w z t1 t2 t3 t4 t5 t6 t7 t8 n) ∈ news)
    (hI1 : IntsAre us1 vs1) (hlen1 : vs1.length = 256) (hI2 : IntsAre us2 vs2) (hlen2 : vs2.length = 256)
    (h : ∀ l ys nl h' tk', IntsAre ys (List.zipWith (fun a b => (a + b).fmod 3329) vs1 vs2) → LCg.Off1 l news → Fr h₀ L h' m →
      News h₀ L h' ((l, W.listOf ys.toArray nl) :: news) → Q (.ref l) { s with heap := h', toks := tk' }) :
    wpAny (model PySem.Challenge.rw_yi0044_01.row.prog w) { handled := none, depth := d, frames := some (Env.mk { kind := .function, names := nms, isGenerator := ig, isCoroutine := ic, more := mo } L gl ce qu fu cd (some L) bi :: outer), guards := gua, units := u }
      (call (.ref 132) [.ref p1, .ref p2] []) Q E s :=
  addm B F X (n_cons N m0 (n_cons N m1 (n_cons N m2 (n_cons N m3 (n_cons N m4 (n_cons N m5 (n_cons N m6 (n_cons N m7 N)))))))) T (by omega) hI1 hlen1 hI2 hlen2 fun l ys nl h' tk' hI ho F' N' =>
    h l ys nl h' tk' hI ho.2.2.2.2.2.2.2.2 F' fun q hq => N' q (by
      rcases List.mem_cons.mp hq with rfl | hq
      · exact .head _
      exact .tail _ (.tail _ (.tail _ (.tail _ (.tail _ (.tail _ (.tail _ (.tail _ (.tail _ (hq))))))))))
theorem mk' {w : World} {A₀ : Around} {d u : Nat} {gua : Option (List Code)} {outer : List Env} {base h₀ : Heap} {L gl bi : Addr} {nms : List (Str × NameKind)} {ig ic : Bool} {mo : List (Str × Const)} {ce : List (Str × Addr)} {qu : Str} {fu : Option Addr} {cd : Value}
    {s : Shared} {m mg mb : Str → Option Value} {loose : List Str} {mean : ExcName → Option Value} {news : List (Addr × Obj)}
    {x dx z n l1 n1 : Nat} {t1 t2 t3 t4 t5 t6 t8 : Tok} {t7 : Int} {us1 : List Value} {vs1 : List Int}
    {Q E : Value → Shared → Prop}
    (B : Below A₀ base outer h₀) (F : Fr h₀ L s.heap m) (X : (hd.heap_39 w.params).In h₀) (N : News h₀ L s.heap news) (T : Top hdView loose mean mg mb h₀) (hdep : d ≤ 370)
    (m0 : (l1, W.listOf us1.toArray n1) ∈ news) (m1 : (x, instObj 282 dx) ∈ news) (m2 : (dx, ringDict w z t1 t2 t3 t4 t5 t6 t7 t8 n) ∈ news)
    (hI1 : IntsAre us1 vs1) (hlen1 : vs1.length = 256)
    (h : ∀ p dp t1' t2' h' tk', AllLt dp news → @LT.lt Nat _ dp p → Fr h₀ L h' m →
      News h₀ L h' ((p, instObj 426 dp) :: (dp, polyDict w x l1 t1' t2') :: news) → Q (.ref p) { s with heap := h', toks := tk' }) :
    wpAny (model PySem.Challenge.rw_yi0044_01.row.prog w) { handled := none, depth := d, frames := some (Env.mk { kind := .function, names := nms, isGenerator := ig, isCoroutine := ic, more := mo } L gl ce qu fu cd (some L) bi :: outer), guards := gua, units := u }
      (call (.ref x) [.ref l1] [(Str.ofString "is_ntt", .bool true)]) Q E s :=
  mk B F X (n_cons N m0 (n_cons N m1 (n_cons N m2 N))) T (by omega) hI1 hlen1 fun p dp t1' t2' h' tk' hl hp F' N' =>
    h p dp t1' t2' h' tk' hl.2.2.2 hp F' fun q hq => N' q (by
      rcases List.mem_cons.mp hq with rfl | hq
      · exact .head _
      rcases List.mem_cons.mp hq with rfl | hq
      · exact .tail _ (.head _)
      exact .tail _ (.tail _ (.tail _ (.tail _ (.tail _ hq)))))
end
end Mine
namespace Mine
section
open PySem PySem.W PyProof.Rows
theorem zip_rng {f : Int → Int → Int} {g : Int → Int} {vs ws : List Int} {n : Nat} (h1 : vs.length = n) (h2 : ws.length = n)
    (hg : ∀ i : Nat, i < n → g (i : Int) = f (vs.getD i 0) (ws.getD i 0)) : List.zipWith f vs ws = List.map g (rangeKs 0 n) := by
  apply List.ext_getElem
  · rw [List.length_zipWith, List.length_map, rangeKs_length, h1, h2, Nat.min_self]
  · intro i hi hj
    have hi' : i < n := by rw [List.length_map, rangeKs_length] at hj; exact hj
    have a1 : i < vs.length := by omega
    have a2 : i < ws.length := by omega
    have := hg i hi'
    rw [List.getD_eq_getElem?_getD, List.getD_eq_getElem?_getD, List.getElem?_eq_getElem a1, List.getElem?_eq_getElem a2] at this
    simp only [Option.getD_some] at this
    rw [List.getElem_zipWith, List.getElem_map, ← this]
    congr 1
    simp [rangeKs]
theorem add_rng {vs ws : List Int} (h1 : vs.length = 256) (h2 : ws.length = 256) :
    List.zipWith (fun a b => (a + b).fmod 3329) vs ws = List.map (fun k' => if k' < 256 then (vs.getD k'.toNat 0 + 1 * ws.getD k'.toNat 0).fmod 3329 else k') (rangeKs 0 ((256 + 0 - Nat.succ 0) / 1 + 1)) :=
  zip_rng (n := 256) h1 h2 fun i hi => by rw [if_pos (by omega), Int.toNat_natCast, Int.one_mul]
theorem sub_rng {vs ws : List Int} (h1 : vs.length = 256) (h2 : ws.length = 256) :
    List.zipWith (fun a b => (a - b).fmod 3329) vs ws = List.map (fun k' => if k' < 256 then (vs.getD k'.toNat 0 + -1 * ws.getD k'.toNat 0).fmod 3329 else k') (rangeKs 0 ((256 + 0 - Nat.succ 0) / 1 + 1)) :=
  zip_rng (n := 256) h1 h2 fun i hi => by rw [if_pos (by omega), Int.toNat_natCast, Int.neg_mul, Int.one_mul, Int.sub_eq_add_neg]
theorem zip_comm (vs ws : List Int) : List.zipWith (fun a b => (a + b).fmod 3329) ws vs = List.zipWith (fun a b => (a + b).fmod 3329) vs ws :=
  List.zipWith_comm_of_comm fun x y => by rw [Int.add_comm]
theorem set_cons {vs : List Int} {x : Int} (h : vs.length = 256) : vs.set 0 x = [x] ++ List.drop 1 vs := by
  cases vs with
  | nil => simp at h
  | cons a r => rfl
end
end Mine
namespace Mine
section
open PySem PySem.W PyProof.Rows
theorem end_true {cl : Str → Option Addr} {mean : ExcName → Option Value} {args : List WData} {s₁ s' : Shared} {L : Addr} {m : Str → Option Value} (F : Fr s₁.heap L s'.heap m) (hg : s'.gens = #[]) (hos : s'.os = s₁.os) :
    GoodW PySem.Challenge.rw_yi0044_01.row.claim cl mean args s₁ (.ok (.ret (.bool true))) s' :=
  goodW_bool F hg (raisesW_false (by wrow_none_raised)) (by wrow_post) hos
end
end Mine
namespace Mine
section
theorem rot1 {g h : Heap} {L : Addr} {x1 a b : Addr × Obj} {r : List (Addr × Obj)} (N : News g L h (x1 :: a :: b :: r)) : News g L h (a :: b :: x1 :: r) := fun p hp => N p (by
  simp only [List.mem_cons] at hp ⊢
  rcases hp with h | h | h | h <;> simp [h])
theorem rot2 {g h : Heap} {L : Addr} {x1 x2 a b : Addr × Obj} {r : List (Addr × Obj)} (N : News g L h (x1 :: x2 :: a :: b :: r)) : News g L h (a :: b :: x1 :: x2 :: r) := fun p hp => N p (by
  simp only [List.mem_cons] at hp ⊢
  rcases hp with h | h | h | h | h <;> simp [h])
theorem num_lo {r : Int} (h : 0 ≤ r) : -20000 ≤ r - 10000 := by omega
theorem num_hi {r : Int} (h : r < 20001) : r - 10000 ≤ 20000 := by omega
theorem num_ok {a r : Int} (h0 : 0 ≤ r) (h1 : r < 20001) : PySem.IntMulOk a (r - 10000) := PySem.IntMulOk.of_right (PySem.intBits_le_64 (by omega) (by omega))
local macro_rules | `(tactic| mul_fits) => `(tactic| exact num_ok (by with_reducible assumption) (by with_reducible assumption))
theorem lt256 {k : Int} (h : k < 0 + (((256 : Int) - 0).toNat : Int)) : k < 256 := by simpa using h
local macro_rules | `(tactic| walk_at "call builtin:isinstance") => `(tactic| (k_here; (with_reducible show wpAny _ _ (call (Value.builtin _) [Value.ref _, Value.ref _]) _ _ _); k_dflt (refine' isi_call ?k1 ?k2 ?k3 ?k4 ?_; (case k1 => k_in); (case k2 => k_types); (case k3 => k_is); (case k4 => intro e; cases e); k_whole)))
local macro_rules | `(tactic| walk_at "CompSrc") => `(tactic| (k_here; kcf_src; (try k_fmods); (try kcf_lens); k_dflt (
  refine LCg.CompSrc.range (by rfl) (by k_asm) (by k_asm) (by assumption) (by decide) (by rfl) (by exact Nat.le_of_ble_eq_true rfl) ?_; intro g'; (refine' kcf_range _ (fun k' t' I' oI' C' oC' D' m' ys' h' tk' E' hlo' hhi' hC' hx' F' N' off' ne' hMark' => ?_) ?_); (all_goals (try (simp only [LCg.Off3, and_true] at off'))); (all_goals (try (replace hhi' := lt256 hhi'))); kcf_last)))
theorem item_int {prog : Program} {w : World} {A : Around} {E : Value → Shared → Prop} {s : Shared} {h₀ : Heap} {L : Addr} {news : List (Addr × Obj)} {value slice : Expr} {a : Addr} {lo : Obj} {us : List Value} {vs : List Int} {n : Nat} {k : Int} {u : Tok} {Q : Value → Shared → Prop}
    (N : News h₀ L s.heap news) (hm : (a, lo) ∈ news) (hc : lo.cls = .type "list") (hd : lo.data = .seq us.toArray n) (hI : IntsAre us vs) (hlen : vs.length = 256) (h0 : 0 ≤ k) (h1 : k < 256) (h : ∀ t, Q (.int (vs.getD k.toNat 0) t) s)
    (hs : subscripted slice false (.ref a) (.int k u) = operate [.ref a, .int k u] (getItem (.ref a) (.int k u))) (hg : ∀ r, letTemporaryGo value (.ref a) r = pure ()) :
    wpAny (model prog w) A (subscriptTail value slice (.ref a) (.int k u)) Q E s := by
  have hl := hI.length
  have hk : k.toNat < us.length := by omega
  obtain ⟨b, t, e1, e2⟩ := intsAre_get hI (List.getElem?_eq_getElem hk)
  have e3 : vs.getD k.toNat 0 = b := by rw [List.getD_eq_getElem?_getD, e2]; rfl
  refine kim_list N hm hc hd h0 (by omega) (List.getElem?_eq_getElem hk) ?_ hs hg
  rw [e1, ← e3]
  exact h t
local macro_rules | `(tactic| walk_at "subscriptTail") => `(tactic| (k_here; (with_reducible show wpAny _ _ (subscriptTail _ _ (Value.ref _) (Value.int _ _)) _ _ _); k_dflt (refine' item_int ?N ?m ?c ?d ?I ?len ?k0 ?k1 ?_ ?hs ?hg; (case hs => with_unfolding_all rfl); (case hg => (intro _; with_unfolding_all rfl)); (case N => k_asm); (case m => k_mem); (case c => exact rfl); (case d => exact rfl); (case I => with_reducible assumption); (case len => first | with_reducible assumption | (simp only [List.length_set]; with_reducible assumption)); (case k0 => first | with_reducible assumption | decide); (case k1 => first | with_reducible assumption | decide); intro t9')))
local macro_rules | `(tactic| k_in) => `(tactic| first | with_reducible assumption | exact Frag.In.keeps (by with_reducible assumption) (Fr.keep (by with_reducible assumption)))
theorem ne1 (a : Nat) : a + 1 + 1 ≠ a + 1 := by omega
theorem ne2 (a : Nat) : a + 1 + 1 + 1 ≠ a + 1 := by omega
theorem ne3 (a : Nat) : a + 1 + 1 + 1 + 1 ≠ a + 1 := by omega
local macro_rules | `(tactic| k_ne) => `(tactic| ((try dsimp only); first | (with_reducible assumption) | (refine Ne.symm ?_; with_reducible assumption) | (refine Nat.ne_of_lt ?_; with_reducible assumption) | (refine Nat.ne_of_gt ?_; with_reducible assumption) | (with_reducible exact ne1 _) | (with_reducible exact ne2 _) | (with_reducible exact ne3 _) | (refine Ne.symm ?_; first | (with_reducible exact ne1 _) | (with_reducible exact ne2 _) | (with_reducible exact ne3 _)) | (refine neN ?_; omega)))
local macro_rules | `(tactic| walk_at "storeName") => `(tactic| (k_here; (with_reducible show wpAny _ _ (storeName _ (PySem.Str.ofString "sign") _) _ _ _); (repeat ((with_reducible rename _ ∧ _ => q9'); (obtain ⟨_, _⟩ := q9'))); k_dflt (
  refine' storeX_C ?F ?N ?c ?U ?d ?_ ?a ?b; (case a => exact rfl); (case b => exact rfl); (case F => k_asm); (case N => k_asm); (case c => exact rfl); (case U => k_updF); (case d => k_asm); k_whole; intro h' o' F' N' d'; (try dsimp only at N'); (try k_sweep))))
local macro_rules | `(tactic| walk_at "call ref") => `(tactic| (k_here; (with_reducible show wpAny _ _ (call (Value.ref 433) _ _) _ _ _); k_dflt (
  refine' state ?B ?F ?X ?N ?T ?dep ?L ?I ?l63 ?_; (case B => k_asm); (case F => k_asm); (case X => k_asm); (case N => k_asm); (case T => k_asm);
  (case dep => (simp only [depth_under_make, depth_under_kw, depth_in1, depth_deeper, depth_caller, claimMargin]; decide));
  (case L => assumption); (case I => assumption); (case l63 => omega);
  k_whole; intro st' c' us' ls' t' n1' n2' h' tk' hI' hl0' hl63' hpos' hne' hst' hc' F' N'; (obtain ⟨_, _, _, _⟩ := hst'); (obtain ⟨_, _, _, _⟩ := hc'); (try k_sweep))))
local macro_rules | `(tactic| walk_at "call ref") => `(tactic| (k_here; (with_reducible show wpAny _ _ (call (Value.ref 282) _ _) _ _ _); k_dflt (
  refine' ring ?B ?F ?X ?N ?T ?dep ?_; (case B => k_asm); (case F => k_asm); (case X => k_asm); (case N => k_asm); (case T => k_asm);
  (case dep => (simp only [depth_under_make, depth_under_kw, depth_in1, depth_deeper, depth_caller, claimMargin]; decide));
  k_whole; intro x' dx' z' t1' t2' t3' t4' t5' t6' t7' t8' n' h' tk' l1' l2' l3' l4' l5' l6' l7' F' N'; (try k_sweep))))
local macro_rules | `(tactic| walk_at "call ref") => `(tactic| (k_here; (with_reducible show wpAny _ _ (call (Value.ref 445) _ _) _ _ _); k_dflt (
  refine' full ?B ?F ?X ?N ?T ?dep ?ne ?r1 ?r2 ?I ?l0 ?l63 ?pos ?a0 ?a1 ?_; (case B => k_asm); (case F => k_asm); (case X => k_asm); (case N => first | k_asm | exact rot1 (by k_asm) | exact rot2 (by k_asm)); (case T => k_asm);
  (case dep => (simp only [depth_under_make, depth_under_kw, depth_in1, depth_deeper, depth_caller, claimMargin]; decide)); (case ne => k_ne); (case r1 => k_all); (case r2 => k_all);
  (case I => k_asm); (case l0 => omega); (case l63 => omega); (case pos => k_asm); (case a0 => omega); (case a1 => omega);
  k_whole; intro l' us2' vs' n3' a' ta' us' ls' h' tk' hI2' hl2' hb2' ho1' ho2' hoff' ha0' ha1' hI' hl' hp' F' N'; (simp only [LCg.Off1, and_true] at hoff'); first | (obtain ⟨_, _, _, _, _, _, _⟩ := hoff') | (obtain ⟨_, _, _, _, _, _⟩ := hoff'); (try k_sweep))))
local macro_rules | `(tactic| walk_at "call ref") => `(tactic| (k_here; (with_reducible show wpAny _ _ (call (Value.ref 440) _ _) _ _ _); k_dflt (
  refine' take ?B ?F ?X ?N ?T ?dep ?ne ?r1 ?r2 ?I ?l0 ?l63 ?pos ?a0 ?a1 ?m0 ?m1 ?_; (case B => k_asm); (case F => k_asm); (case X => k_asm); (case N => first | k_asm | exact rot1 (by k_asm) | exact rot2 (by k_asm)); (case T => k_asm);
  (case dep => (simp only [depth_under_make, depth_under_kw, depth_in1, depth_deeper, depth_caller, claimMargin]; decide)); (case ne => k_ne); (case r1 => k_all); (case r2 => k_all);
  (case I => k_asm); (case l0 => omega); (case l63 => omega); (case pos => k_asm); (case a0 => omega); (case a1 => omega); (case m0 => omega); (case m1 => omega);
  k_whole; intro r' t' a' ta' us' ls' h' tk' hr0' hr1' ha0' ha1' hI' hl' hp' F' N'; (try k_sweep))))
local macro_rules | `(tactic| walk_at "callWith ref") => `(tactic| (k_here; (with_reducible show wpAny _ _ (callWith _ (Value.ref _) [] _ (backToKw _ _)) _ _ _); k_dflt (
  refine' callWith_KWI ?k1 ?k2 ?k3 ?k4 ?_; (case k1 => k_in); (case k2 => k_inst); (case k3 => rfl); (case k4 => exact rfl); k_whole)))
local macro_rules | `(tactic| walk_at "call ref") => `(tactic| (k_here; (with_reducible show wpAny _ _ (call (Value.ref _) _ (List.zip _ _)) _ _ _); k_dflt (
  refine' mk' ?B ?F ?X ?N ?T ?dep ?m0 ?m1 ?m2 ?I1 ?len1 ?_; (case B => k_asm); (case F => k_asm); (case X => k_asm); (case N => k_asm); (case T => k_asm);
  (case dep => (simp only [depth_under_make, depth_under_kw, depth_in1, depth_deeper, depth_caller, claimMargin]; decide));
  (case m0 => k_mem); (case m1 => k_mem); (case m2 => k_mem); (case I1 => k_asm); (case len1 => first | assumption | (simp only [List.length_set]; assumption));
  k_whole; intro p' dp' t1' t2' h' tk' hlt' hpp' F' N'; (simp only [AllLt, and_true] at hlt'); (try k_sweep))))
local macro_rules | `(tactic| walk_at "call ref") => `(tactic| (k_here; (first | (with_reducible show wpAny _ _ (call (Value.ref 132) _ _) _ _ _) | (with_reducible show wpAny _ _ (call (Value.ref (132 : Nat)) _ _) _ _ _)); k_dflt (
  refine' addm' ?B ?F ?X ?N ?T ?dep ?m0 ?m1 ?m2 ?m3 ?m4 ?m5 ?m6 ?m7 ?I1 ?len1 ?I2 ?len2 ?_; (case B => k_asm); (case F => k_asm); (case X => k_asm); (case N => k_asm); (case T => k_asm);
  (case dep => (simp only [depth_under_make, depth_under_kw, depth_in1, depth_deeper, depth_caller, claimMargin]; decide));
  (case m0 => k_mem); (case m1 => k_mem); (case m2 => k_mem); (case m3 => k_mem); (case m4 => k_mem); (case m5 => k_mem); (case m6 => k_mem); (case m7 => k_mem); (case I1 => k_asm); (case len1 => first | assumption | (simp only [List.length_set]; assumption)); (case I2 => k_asm); (case len2 => first | assumption | (simp only [List.length_set]; assumption));
  k_whole; intro l' ys' nl' h' tk' hI' ho' F' N'; (simp only [LCg.Off1, and_true] at ho'); (try k_sweep))))
local macro_rules | `(tactic| walk_at "binaryOp Add ref ref") => `(tactic| (k_here; (with_reducible show wpAny _ _ (binaryOp Operator.Add (Value.ref _) (Value.ref _)) _ _ _); k_dflt (
  refine' padd' ?B ?F ?X ?N ?T ?dep ?m0 ?m1 ?m2 ?m3 ?m4 ?m5 ?m6 ?m7 ?I1 ?len1 ?I2 ?len2 ?_; (case B => k_asm); (case F => k_asm); (case X => k_asm); (case N => k_asm); (case T => k_asm);
  (case dep => (simp only [depth_under_make, depth_under_kw, depth_in1, depth_deeper, depth_caller, claimMargin]; decide));
  (case m0 => k_mem); (case m1 => k_mem); (case m2 => k_mem); (case m3 => k_mem); (case m4 => k_mem); (case m5 => k_mem); (case m6 => k_mem); (case m7 => k_mem); (case I1 => k_asm); (case len1 => first | assumption | (simp only [List.length_set]; assumption)); (case I2 => k_asm); (case len2 => first | assumption | (simp only [List.length_set]; assumption));
  k_whole; intro p' dp' l' ys' nl' t1' t2' h' tk' hI' ho' hldp' hlt' hpp' F' N'; (simp only [LCg.Off1, and_true] at ho'); (simp only [AllLt, and_true] at hlt'); (try k_sweep))))
local macro_rules | `(tactic| walk_at "binaryOp Sub ref ref") => `(tactic| (k_here; (with_reducible show wpAny _ _ (binaryOp Operator.Sub (Value.ref _) (Value.ref _)) _ _ _); k_dflt (
  refine' psub' ?B ?F ?X ?N ?T ?dep ?m0 ?m1 ?m2 ?m3 ?m4 ?m5 ?m6 ?m7 ?I1 ?len1 ?I2 ?len2 ?_; (case B => k_asm); (case F => k_asm); (case X => k_asm); (case N => k_asm); (case T => k_asm);
  (case dep => (simp only [depth_under_make, depth_under_kw, depth_in1, depth_deeper, depth_caller, claimMargin]; decide));
  (case m0 => k_mem); (case m1 => k_mem); (case m2 => k_mem); (case m3 => k_mem); (case m4 => k_mem); (case m5 => k_mem); (case m6 => k_mem); (case m7 => k_mem); (case I1 => k_asm); (case len1 => first | assumption | (simp only [List.length_set]; assumption)); (case I2 => k_asm); (case len2 => first | assumption | (simp only [List.length_set]; assumption));
  k_whole; intro p' dp' l' ys' nl' t1' t2' h' tk' hI' ho' hldp' hlt' hpp' F' N'; (simp only [LCg.Off1, and_true] at ho'); (simp only [AllLt, and_true] at hlt'); (try k_sweep))))
local macro_rules | `(tactic| walk_at "binaryOp Mult ref int") => `(tactic| (k_here; (with_reducible show wpAny _ _ (binaryOp Operator.Mult (Value.ref _) (Value.int _ _)) _ _ _); k_dflt (
  refine' pmuli' ?B ?F ?X ?N ?T ?dep ?m0 ?m1 ?m2 ?m3 ?m4 ?I1 ?len1 ?k0 ?k1 ?_; (case B => k_asm); (case F => k_asm); (case X => k_asm); (case N => k_asm); (case T => k_asm);
  (case dep => (simp only [depth_under_make, depth_under_kw, depth_in1, depth_deeper, depth_caller, claimMargin]; decide));
  (case m0 => k_mem); (case m1 => k_mem); (case m2 => k_mem); (case m3 => k_mem); (case m4 => k_mem); (case I1 => k_asm); (case len1 => first | assumption | (simp only [List.length_set]; assumption)); (case k0 => first | exact num_lo (by with_reducible assumption) | omega); (case k1 => first | exact num_hi (by with_reducible assumption) | omega);
  k_whole; intro p' dp' l' ys' nl' t1' t2' h' tk' hI' ho' hldp' hlt' hpp' F' N'; (simp only [LCg.Off1, and_true] at ho'); (simp only [AllLt, and_true] at hlt'); (try k_sweep))))
local macro_rules | `(tactic| walk_at "binaryOp Mult int ref") => `(tactic| (k_here; (with_reducible show wpAny _ _ (binaryOp Operator.Mult (Value.int _ _) (Value.ref _)) _ _ _); k_dflt (
  refine' pimul' ?B ?F ?X ?N ?T ?dep ?m0 ?m1 ?m2 ?m3 ?m4 ?I1 ?len1 ?k0 ?k1 ?_; (case B => k_asm); (case F => k_asm); (case X => k_asm); (case N => k_asm); (case T => k_asm);
  (case dep => (simp only [depth_under_make, depth_under_kw, depth_in1, depth_deeper, depth_caller, claimMargin]; decide));
  (case m0 => k_mem); (case m1 => k_mem); (case m2 => k_mem); (case m3 => k_mem); (case m4 => k_mem); (case I1 => k_asm); (case len1 => first | assumption | (simp only [List.length_set]; assumption)); (case k0 => first | exact num_lo (by with_reducible assumption) | omega); (case k1 => first | exact num_hi (by with_reducible assumption) | omega);
  k_whole; intro p' dp' l' ys' nl' t1' t2' h' tk' hI' ho' hldp' hlt' hpp' F' N'; (simp only [LCg.Off1, and_true] at ho'); (simp only [AllLt, and_true] at hlt'); (try k_sweep))))
local macro_rules | `(tactic| walk_at "binaryOp Add ref int") => `(tactic| (k_here; (with_reducible show wpAny _ _ (binaryOp Operator.Add (Value.ref _) (Value.int _ _)) _ _ _); k_dflt (
  refine' paddi' ?B ?F ?X ?N ?T ?dep ?m0 ?m1 ?m2 ?m3 ?m4 ?I1 ?len1 ?k0 ?k1 ?_; (case B => k_asm); (case F => k_asm); (case X => k_asm); (case N => k_asm); (case T => k_asm);
  (case dep => (simp only [depth_under_make, depth_under_kw, depth_in1, depth_deeper, depth_caller, claimMargin]; decide));
  (case m0 => k_mem); (case m1 => k_mem); (case m2 => k_mem); (case m3 => k_mem); (case m4 => k_mem); (case I1 => k_asm); (case len1 => first | assumption | (simp only [List.length_set]; assumption)); (case k0 => first | exact num_lo (by with_reducible assumption) | omega); (case k1 => first | exact num_hi (by with_reducible assumption) | omega);
  k_whole; intro p' dp' l' ys' nl' t1' t2' h' tk' hI' ho' hldp' hlt' hpp' F' N'; (simp only [LCg.Off1, and_true] at ho'); (simp only [AllLt, and_true] at hlt'); (try k_sweep))))
local macro_rules | `(tactic| walk_at "binaryOp Add int ref") => `(tactic| (k_here; (with_reducible show wpAny _ _ (binaryOp Operator.Add (Value.int _ _) (Value.ref _)) _ _ _); k_dflt (
  refine' piadd' ?B ?F ?X ?N ?T ?dep ?m0 ?m1 ?m2 ?m3 ?m4 ?I1 ?len1 ?k0 ?k1 ?_; (case B => k_asm); (case F => k_asm); (case X => k_asm); (case N => k_asm); (case T => k_asm);
  (case dep => (simp only [depth_under_make, depth_under_kw, depth_in1, depth_deeper, depth_caller, claimMargin]; decide));
  (case m0 => k_mem); (case m1 => k_mem); (case m2 => k_mem); (case m3 => k_mem); (case m4 => k_mem); (case I1 => k_asm); (case len1 => first | assumption | (simp only [List.length_set]; assumption)); (case k0 => first | exact num_lo (by with_reducible assumption) | omega); (case k1 => first | exact num_hi (by with_reducible assumption) | omega);
  k_whole; intro p' dp' l' ys' nl' t1' t2' h' tk' hI' ho' hldp' hlt' hpp' F' N'; (simp only [LCg.Off1, and_true] at ho'); (simp only [AllLt, and_true] at hlt'); (try k_sweep))))
theorem law_holds : PySem.Challenge.rw_yi0044_01.Holds := hd (by
  k_with_none
  w_strict (
    k_go0
    (all_goals try k_fold)
    repeat' (first | (k_unfold; (try dsimp only)) | ((fail_if_success w_end); first | (k_end; wrow_close) | walk1 | (dsimp only; walk1) | (leave1; walk_say "STEP leave1"; try dsimp only)) | fail "no step")
    all_goals (first
      | ((with_reducible rename ¬ (List.zipWith _ _ _ = List.map _ _) => q9'); exact (q9' (add_rng (by with_reducible assumption) (by first | with_reducible assumption | (rw [List.length_set]; with_reducible assumption)))).elim)
      | ((with_reducible rename ¬ (List.zipWith _ _ _ = List.map _ _) => q9'); exact (q9' (sub_rng (by with_reducible assumption) (by first | with_reducible assumption | (rw [List.length_set]; with_reducible assumption)))).elim)
      | ((with_reducible rename ¬ (List.zipWith _ _ _ = List.zipWith _ _ _) => q9'); exact (q9' (zip_comm _ _)).elim)
      | ((with_reducible rename ¬ (List.set _ _ _ = _) => q9'); exact (q9' (set_cons (by with_reducible assumption))).elim)
      | ((show GoodW _ _ _ _ _ (.ok (.ret (.bool true))) _); refine' end_true ?F9 ?g9 ?o9; (case F9 => (with_reducible assumption)); (case g9 => (dsimp only; with_reducible assumption)); (case o9 => exact rfl)))))
end
end Mine
theorem PySem.Challenge.cw_yi0044_01_holds : PySem.Challenge.rw_yi0044_01.Holds := by
  exact Mine.law_holds
